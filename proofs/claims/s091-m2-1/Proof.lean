import JvmDerived
import JvmDerived.Pilot.@@N@@Statement
import JvmDerived.Pilot.@@N@@Code
set_option linter.unusedVariables false
set_option linter.unusedSimpArgs false
namespace Jvm.Pilot.@@N@@
open Jvm Jvm.ClassFile Sem Op Lib Jvm.Free Jvm.Stand Jvm.LawKit Jvm.RoadKit Bundle Jvm.Pilot.@@N@@.Jvm.D
section OwnKit
variable {p : Program} {l : Launch} {e : Env} {R : Room} {s : State} {m : MethodId} {args : Array Value} {below : List Frame} {meth : Method} {c : Code} {T : State} {locs : List Loc} {cells slots : Nat} {Z : State} {a0 : Array Value} {h : Heap} {n0 : Nat} {G : State → Outcome → Prop} {kc ks : Nat} {Q : Option Value → Heap → Prop}
/-- what is left of a walk: from U the body comes to an end of which G holds -/
def own_Go (tb : Tables) (e : Env) (below : List Frame) (G : State → Outcome → Prop) (U : State) : Prop := ∃ s₂ o, Steps tb e below U s₂ ∧ s₂.status = .running ∧ Ended s₂ below o ∧ G s₂ o
theorem own_go {tb : Tables} {U U' : State} (f : ∀ t, Steps tb e below U' t → Steps tb e below U t) (k : own_Go tb e below G U') : own_Go tb e below G U := by
  obtain ⟨a, b, c, d⟩ := k
  exact ⟨a, b, f _ c, d⟩
/-- where the run stands: its heap is h, nothing below n0 has been written -/
def own_At (p : Program) (l : Launch) (e : Env) (R : Room) (s : State) (m : MethodId) (args : Array Value) (below : List Frame) (meth : Method) (c : Code) (n0 : Nat) (T : State) (h : Heap) (cells slots : Nat) : Prop :=
  ∃ locs, Stand p l e R s m args below meth c T locs cells slots ∧ T.heap = h ∧ Fr n0 locs
theorem own_At.here (A : own_At p l e R s m args below meth c n0 T h cells slots) : At T m c below := by obtain ⟨_, X, -, -⟩ := A; exact X.here
theorem own_At.heap (A : own_At p l e R s m args below meth c n0 T h cells slots) : T.heap = h := by obtain ⟨_, -, q, -⟩ := A; exact q
/-- the end of a body: it returns v, Q holds of v and the heap -/
def own_End (n0 : Nat) (s : State) (kc ks : Nat) (Q : Option Value → Heap → Prop) : State → Outcome → Prop := fun s₂ o => ∃ v L, o = .returned v ∧ (Q v s₂.heap ∧ Fr n0 L) ∧ FrameEnd s o s₂ L kc ks
theorem own_leave (A : own_At p l e R s m args below meth c n0 T h cells slots) {v : Option Value} (hv : meth.sig.returnType = none → v = none) (hlk : meth.locks = false) (hc : cells ≤ kc) (hs : slots ≤ ks) (q : Q v h) {U : State}
    (st : ∀ locs, Stand p l e R s m args below meth c T locs cells slots → ∀ fs, (∀ (f : JFrame) (acts : List Action), f.method = m → f.locked = none → f.entered = [] → (doReturn e (T.setTop f) acts v).1 = T.setFrames fs) → Steps p.tables e below U (T.setFrames fs)) : own_Go p.tables e below (own_End n0 s kc ks Q) U := by
  obtain ⟨locs, X, rfl, N⟩ := A
  obtain ⟨fs, hr, hrun, hended, hW, hsame⟩ := X.leave hv hlk
  exact ⟨_, _, st locs X fs hr, hrun, hended, _, _, rfl, ⟨q, N⟩, ⟨_, rfl⟩, hW, hsame.mono hc hs⟩
theorem own_retI (A : own_At p l e R s m args below meth c n0 T h cells slots) (hx : p.tables.exec = Jvm.exec) (hret : meth.sig.returnType = some .int) (hlk : meth.locks = false) (hc : cells ≤ kc) (hs : slots ≤ ks) {pc : Nat} {Ls : Array Slot} {z : Int32} {rest : List Value} (hd : decode c.code pc = .ok (.ireturn, 1)) (q : Q (some (.int z)) h) :
    own_Go p.tables e below (own_End n0 s kc ks Q) (T.setTop (mkF m pc Ls (.int z :: rest))) :=
  own_leave A (fun q => by rw [hret] at q; cases q) hlk hc hs q fun _ X _ hr => retOut X hx hret rfl (Or.inl ⟨rfl, Or.inl rfl, _, rfl⟩) hd hr
theorem own_retN (A : own_At p l e R s m args below meth c n0 T h cells slots) (hx : p.tables.exec = Jvm.exec) {t : FieldType} (hret : meth.sig.returnType = some t) (ht : t = .boolean ∨ t = .byte ∨ t = .char ∨ t = .short) (hlk : meth.locks = false) (hc : cells ≤ kc) (hs : slots ≤ ks) {pc : Nat} {Ls : Array Slot} {z : Int32} {rest : List Value} (hd : decode c.code pc = .ok (.ireturn, 1)) (q : Q (some (.int (nar t z))) h) :
    own_Go p.tables e below (own_End n0 s kc ks Q) (T.setTop (mkF m pc Ls (.int z :: rest))) :=
  own_leave A (fun q => by rw [hret] at q; cases q) hlk hc hs q fun _ X _ hr => retN X hx hret ht hd hr
theorem own_retJ (A : own_At p l e R s m args below meth c n0 T h cells slots) (hx : p.tables.exec = Jvm.exec) (hret : meth.sig.returnType = some .long) (hlk : meth.locks = false) (hc : cells ≤ kc) (hs : slots ≤ ks) {pc : Nat} {Ls : Array Slot} {z : Int64} {rest : List Value} (hd : decode c.code pc = .ok (.lreturn, 1)) (q : Q (some (.long z)) h) :
    own_Go p.tables e below (own_End n0 s kc ks Q) (T.setTop (mkF m pc Ls (.long z :: rest))) :=
  own_leave A (fun q => by rw [hret] at q; cases q) hlk hc hs q fun _ X _ hr => retOut X hx hret rfl (Or.inr (Or.inl ⟨rfl, rfl, _, rfl⟩)) hd hr
theorem own_retD (A : own_At p l e R s m args below meth c n0 T h cells slots) (hx : p.tables.exec = Jvm.exec) (hret : meth.sig.returnType = some .double) (hlk : meth.locks = false) (hc : cells ≤ kc) (hs : slots ≤ ks) {pc : Nat} {Ls : Array Slot} {z : UInt64} {rest : List Value} (hd : decode c.code pc = .ok (.dreturn, 1)) (q : Q (some (.double z)) h) :
    own_Go p.tables e below (own_End n0 s kc ks Q) (T.setTop (mkF m pc Ls (.double z :: rest))) :=
  own_leave A (fun q => by rw [hret] at q; cases q) hlk hc hs q fun _ X _ hr => retOut X hx hret rfl (Or.inr (Or.inr (Or.inl ⟨rfl, rfl, _, rfl⟩))) hd hr
theorem own_retA (A : own_At p l e R s m args below meth c n0 T h cells slots) (hx : p.tables.exec = Jvm.exec) {t : FieldType} (hret : meth.sig.returnType = some t) (ht : t.isReference = true) (hlk : meth.locks = false) (hc : cells ≤ kc) (hs : slots ≤ ks) {pc : Nat} {Ls : Array Slot} {w : Value} (hw : w.isRef = true) {rest : List Value} (hd : decode c.code pc = .ok (.areturn, 1)) (q : Q (some w) h) :
    own_Go p.tables e below (own_End n0 s kc ks Q) (T.setTop (mkF m pc Ls (w :: rest))) :=
  own_leave A (fun q => by rw [hret] at q; cases q) hlk hc hs q fun _ X _ hr => retOut X hx hret (by cases t <;> first | rfl | cases ht) (Or.inr (Or.inr (Or.inr (Or.inr ⟨rfl, ht, hw⟩)))) hd hr
theorem own_retV (A : own_At p l e R s m args below meth c n0 T h cells slots) (hx : p.tables.exec = Jvm.exec) (hret : meth.sig.returnType = none) (hlk : meth.locks = false) (hc : cells ≤ kc) (hs : slots ≤ ks) {pc : Nat} {Ls : Array Slot} (hd : decode c.code pc = .ok (.return_, 1)) (q : Q none h) :
    own_Go p.tables e below (own_End n0 s kc ks Q) (T.setTop (mkF m pc Ls [])) :=
  own_leave A (fun _ => rfl) hlk hc hs q fun _ X _ hr => X.returnOut hx hret hd hr
/-- a body's contract: called with as' at the heap h0 it returns, and Q holds of what it returns and of the heap -/
def own_Met (l : Launch) (Z : State) (n0 : Nat) (y : MethodName) (bytes : ByteArray) (maxL : Nat) (ret : Option FieldType) (rm : Room) (as' : Array Value) (h0 : Heap) (Q : Option Value → Heap → Prop) : Prop :=
  ∀ ws, MetFree l y (head1 (Cond.code y bytes maxL ret :: ws) rm) (fun a U => a = as' ∧ Z.Warmed39 U.vm ∧ U.heap = h0) (fun _ _ _ _ _ => True) (fun _ U o U' => ∃ v L, o = .returned v ∧ (Q v U'.heap ∧ Fr n0 L) ∧ FrameEnd U o U' L rm.cells rm.slots)
theorem own_met {y : MethodName} {bytes : ByteArray} {maxL : Nat} {ret : Option FieldType} {rm : Room} {as' : Array Value} {h0 : Heap} (hp : plainFor y = true)
    (body : ∀ (p : Program) (e : Env) (s : State) (m : MethodId) (below : List Frame) (meth : Method) (c : Code) (T : State), p.tables.exec = Jvm.exec → c.code = bytes → c.maxLocals = maxL → s.vm.findClass y.cls = some m.cls → meth.name = y.name → meth.sig.returnType = ret → meth.locks = false → Z.Warmed39 s.vm →
      own_At p l e rm s m as' below meth c n0 T h0 0 0 → own_Go p.tables e below (own_End n0 s rm.cells rm.slots Q) (T.setTop (entryFrame m as' maxL))) : own_Met l Z n0 y bytes maxL ret rm as' h0 Q := by
  intro ws
  refine MetFree.of_bodySF hp hisR ?_
  intro p e s m args below meth c s₁ Bd hml0 hP hK
  obtain ⟨rfl, hZ, hh⟩ := hP
  exact body p e s m below meth c s₁ Bd.exec Bd.bytes hml0 (findClass_of_methodNamed Bd.named) (name_of_methodNamed Bd.named Bd.method).1 Bd.returns Bd.notSynchronized hZ ⟨[], Stand.of_body Bd, by rw [← hh, Bd.state]; rfl, Fr.nil n0⟩
theorem own_callS (A : own_At p l e R s m args below meth c n0 T h cells slots) (hx : p.tables.exec = Jvm.exec) (hZ : Z.Warmed39 s.vm) {own : String} {index : Nat} {y : MethodName} {bytes : ByteArray} {maxL : Nat} {ret : Option FieldType} (hown : s.vm.findClass own = some m.cls)
    (w1 : (Cond.methodLink own index y).before a0 Z = true) (w2 : (Cond.static y).before a0 Z = true) (w3 : (Cond.initialized y.cls).before a0 Z = true) (w4 : (Cond.code y bytes maxL ret).before a0 Z = true) (hy : y.cls ≠ "java/lang/invoke/MethodHandle" ∧ y.cls ≠ "java/lang/invoke/VarHandle")
    {rm : Room} {argsL rest : List Value} (hM : own_Met l Z n0 y bytes maxL ret rm argsL.toArray h Q) (W : Nat) (hfr : rm.frames + 1 ≤ R.frames) (hlo : W + (maxL + 11) + rm.locals ≤ R.locals) {g : JFrame} (hg : g.method = m) (hsize : g.locals.size = c.maxLocals)
    (hlen : ∀ sig, parseMethodDescriptor y.desc = some sig → argsL.length = sig.parameters.length) (hs : g.stack = argsL.reverse ++ rest) (hW : 2 * g.monitorRoom + (rest.map fun v => v.category).sum ≤ W) (hd : decode c.code g.pc = .ok (.invokestatic index, 3))
    (hc : cells + rm.cells ≤ R.cells) (hl : slots + rm.slots ≤ R.slots)
    (k : ∀ v T' h', own_At p l e R s m args below meth c n0 T' h' (cells + rm.cells) (slots + rm.slots) → Q v h' → own_Go p.tables e below G (T'.setTop { g with pc := g.pc + 3, stack := v.toList ++ rest })) : own_Go p.tables e below G (T.setTop g) := by
  obtain ⟨locs, X, eT, N⟩ := A
  obtain ⟨v, _, ⟨T1, L1, k1, s1⟩, -, X1, ⟨Lc, ⟨hQ, N1⟩, l1, y1, z1⟩, st⟩ := Jvm.LawKit.callS X hx (y := y) hown (mvT hZ w1) (mvT hZ w2) (mvT hZ w3) (mvT hZ w4) hy (backOf (Q := fun v h L => Q v h ∧ Fr n0 L) (W := W) (hM []) hZ w4 w3 hfr hlo) hg hsize (argsL := argsL) (rest := rest) hlen hs hW hd (fun _ _ => ⟨rfl, eT, hc, hl⟩)
  dsimp only [Pt.U, Pt.locs, Pt.cells, Pt.slots] at X1 l1 y1 z1 st hQ
  subst l1 y1 z1
  exact own_go (fun t k => st t k) (k v T1 T1.heap ⟨_, X1, rfl, N.app N1⟩ hQ)
theorem own_callV (A : own_At p l e R s m args below meth c n0 T h cells slots) (hx : p.tables.exec = Jvm.exec) (hZ : Z.Warmed39 s.vm) {own C : String} {index : Nat} {y z : MethodName} {bytes : ByteArray} {maxL : Nat} {ret : Option FieldType} (hown : s.vm.findClass own = some m.cls)
    (w1 : (Cond.methodLink own index y).before a0 Z = true) (w2 : (Cond.declares y).before a0 Z = true) (w3 : (Cond.selects C y z).before a0 Z = true) (w4 : (Cond.instanceMethod z).before a0 Z = true) (w5 : (Cond.initialized z.cls).before a0 Z = true) (w6 : (Cond.code z bytes maxL ret).before a0 Z = true) (nf : NotFace s y)
    (hy : y.cls ≠ "java/lang/invoke/MethodHandle" ∧ y.cls ≠ "java/lang/invoke/VarHandle")
    {rm : Room} {b : Addr} {argsL rest : List Value} (E : Exa Z h b C) (hM : own_Met l Z n0 z bytes maxL ret rm (.ref b :: argsL).toArray h Q) (W : Nat) (hfr : rm.frames + 1 ≤ R.frames) (hlo : W + (maxL + 11) + rm.locals ≤ R.locals) {g : JFrame} (hg : g.method = m) (hsize : g.locals.size = c.maxLocals)
    (hlen : ∀ sig, parseMethodDescriptor y.desc = some sig → argsL.length = sig.parameters.length) (hs : g.stack = argsL.reverse ++ .ref b :: rest) (hW : 2 * g.monitorRoom + (rest.map fun v => v.category).sum ≤ W) (hd : decode c.code g.pc = .ok (.invokevirtual index, 3))
    (hc : cells + rm.cells ≤ R.cells) (hl : slots + rm.slots ≤ R.slots)
    (k : ∀ v T' h', own_At p l e R s m args below meth c n0 T' h' (cells + rm.cells) (slots + rm.slots) → Q v h' → own_Go p.tables e below G (T'.setTop { g with pc := g.pc + 3, stack := v.toList ++ rest })) : own_Go p.tables e below G (T.setTop g) := by
  obtain ⟨locs, X, eT, N⟩ := A
  obtain ⟨cq, kq, qa, qb, qc⟩ := isOf hZ eT E
  obtain ⟨v, _, ⟨T1, L1, k1, s1⟩, -, X1, ⟨Lc, ⟨hQ, N1⟩, l1, y1, z1⟩, st⟩ := X.virtualBack hx (y := y) (z := z) hown (mvT hZ w1) (mvT hZ w2) nf (mvT hZ w3) (mvT hZ w4) hy (backOf (Q := fun v h L => Q v h ∧ Fr n0 L) (W := W) (hM []) hZ w6 w5 hfr hlo) qa qc hg hsize (Steps.refl _) (argsL := argsL) (rest := rest) hlen hs hW hd (fun _ _ => ⟨rfl, eT, hc, hl⟩)
  dsimp only [Pt.U, Pt.locs, Pt.cells, Pt.slots] at X1 l1 y1 z1 st hQ
  subst l1 y1 z1
  exact own_go (fun t k => st.trans k) (k v T1 T1.heap ⟨_, X1, rfl, N.app N1⟩ hQ)
theorem own_callI (A : own_At p l e R s m args below meth c n0 T h cells slots) (hx : p.tables.exec = Jvm.exec) (hZ : Z.Warmed39 s.vm) {own : String} {index : Nat} {y : MethodName} (hy1 : y.name = "<init>") {bytes : ByteArray} {maxL : Nat} (hown : s.vm.findClass own = some m.cls)
    (w1 : (Cond.methodLink own index y).before a0 Z = true) (w4 : (Cond.instanceMethod y).before a0 Z = true) (w5 : (Cond.initialized y.cls).before a0 Z = true) (w6 : (Cond.code y bytes maxL none).before a0 Z = true)
    (hy : y.cls ≠ "java/lang/invoke/MethodHandle" ∧ y.cls ≠ "java/lang/invoke/VarHandle")
    {rm : Room} {b : Addr} {argsL rest : List Value} (hM : own_Met l Z n0 y bytes maxL none rm (.ref b :: argsL).toArray h Q) (W : Nat) (hfr : rm.frames + 1 ≤ R.frames) (hlo : W + (maxL + 11) + rm.locals ≤ R.locals) {g : JFrame} (hg : g.method = m) (hsize : g.locals.size = c.maxLocals)
    (hlen : ∀ sig, parseMethodDescriptor y.desc = some sig → argsL.length = sig.parameters.length) (hs : g.stack = argsL.reverse ++ .ref b :: rest) (hW : 2 * g.monitorRoom + (rest.map fun v => v.category).sum ≤ W) (hd : decode c.code g.pc = .ok (.invokespecial index, 3))
    (hc : cells + rm.cells ≤ R.cells) (hl : slots + rm.slots ≤ R.slots)
    (k : ∀ v T' h', own_At p l e R s m args below meth c n0 T' h' (cells + rm.cells) (slots + rm.slots) → Q v h' → own_Go p.tables e below G (T'.setTop { g with pc := g.pc + 3, stack := v.toList ++ rest })) : own_Go p.tables e below G (T.setTop g) := by
  obtain ⟨locs, X, eT, N⟩ := A
  obtain ⟨v, _, ⟨T1, L1, k1, s1⟩, -, X1, ⟨Lc, ⟨hQ, N1⟩, l1, y1, z1⟩, st⟩ := X.specialBack hx (y := y) hy1 hown (mvT hZ w1) (mvT hZ w4) (mvT hZ w6) hy (backOf (Q := fun v h L => Q v h ∧ Fr n0 L) (W := W) (hM []) hZ w6 w5 hfr hlo) hg hsize (Steps.refl _) (a := b) (argsL := argsL) (rest := rest) hlen hs hW hd (fun _ _ => ⟨rfl, eT, hc, hl⟩)
  dsimp only [Pt.U, Pt.locs, Pt.cells, Pt.slots] at X1 l1 y1 z1 st hQ
  subst l1 y1 z1
  exact own_go (fun t k => st.trans k) (k v T1 T1.heap ⟨_, X1, rfl, N.app N1⟩ hQ)
theorem own_initO (A : own_At p l e R s m args below meth c n0 T h cells slots) (hx : p.tables.exec = Jvm.exec) (hZ : Z.Warmed39 s.vm) {own : String} {idx : Nat} (hown : s.vm.findClass own = some m.cls) (w1 : (Cond.methodLink own idx Lib.objectInit).before a0 Z = true) (w2 : (Cond.instanceMethod Lib.objectInit).before a0 Z = true)
    (w3 : (Cond.code Lib.objectInit ⟨#[0xb1]⟩ 1 none).before a0 Z = true) {g : JFrame} (hg : g.method = m) (hsize : g.locals.size = c.maxLocals) {a : Addr} {rest : List Value} (hs : g.stack = .ref a :: rest) (hd : decode c.code g.pc = .ok (.invokespecial idx, 3))
    (hf : 1 ≤ R.frames) (W : Nat) (hW : 2 * g.monitorRoom + (rest.map fun v => v.category).sum ≤ W) (hl : W + 12 ≤ R.locals)
    (k : ∀ T', own_At p l e R s m args below meth c n0 T' h cells slots → own_Go p.tables e below G (T'.setTop { g with pc := g.pc + 3, stack := rest })) : own_Go p.tables e below G (T.setTop g) := by
  obtain ⟨locs, X, eT, N⟩ := A
  obtain ⟨T1, X1, e1, st⟩ := initO X hx hZ hown w1 w2 w3 eT hg hsize hs hd hf hW hl
  exact own_go st (k T1 ⟨_, X1, e1, N⟩)
theorem own_getF (A : own_At p l e R s m args below meth c n0 T h cells slots) (hx : p.tables.exec = Jvm.exec) (hZ : Z.Warmed39 s.vm) {own R0 O n d host : String} {index : Nat} (hown : s.vm.findClass own = some m.cls) (w : (Cond.fieldLink own index R0 n d).before a0 Z = true ∨ (Cond.fieldLinkNest own index R0 n d host).before a0 Z = true) (via : Via Z R0 O n d)
    {a : Addr} {v : Value} (F : Fld Z h a O n d v) {g : JFrame} (hg : g.method = m) {rest : List Value} (hs : g.stack = .ref a :: rest) (hd : decode c.code g.pc = .ok (.getfield index, 3))
    (k : ∀ T', own_At p l e R s m args below meth c n0 T' h cells slots → own_Go p.tables e below G (T'.setTop { g with pc := g.pc + 3, stack := v :: rest })) : own_Go p.tables e below G (T.setTop g) := by
  obtain ⟨locs, X, eT, N⟩ := A
  obtain ⟨T1, X1, e1, st⟩ := getF X hx hZ hown w via eT F hg hs hd
  exact own_go st (k T1 ⟨_, X1, e1, N⟩)
theorem own_getS (A : own_At p l e R s m args below meth c n0 T h cells slots) (hx : p.tables.exec = Jvm.exec) (hZ : Z.Warmed39 s.vm) {own R0 O n d host : String} {index : Nat} (hown : s.vm.findClass own = some m.cls) (w : (Cond.fieldLink own index R0 n d).before a0 Z = true ∨ (Cond.fieldLinkNest own index R0 n d host).before a0 Z = true) (via : Via Z R0 O n d)
    {v : Value} (F : Sta Z h O n d v) {g : JFrame} (hg : g.method = m) (hd : decode c.code g.pc = .ok (.getstatic index, 3))
    (k : ∀ T', own_At p l e R s m args below meth c n0 T' h cells slots → own_Go p.tables e below G (T'.setTop { g with pc := g.pc + 3, stack := v :: g.stack })) : own_Go p.tables e below G (T.setTop g) := by
  obtain ⟨locs, X, eT, N⟩ := A
  obtain ⟨T1, X1, e1, st⟩ := getS2 X hx hZ hown w via eT F hg hd
  exact own_go st (k T1 ⟨_, X1, e1, N⟩)
theorem own_ldcI (A : own_At p l e R s m args below meth c n0 T h cells slots) (hx : p.tables.exec = Jvm.exec) (hZ : Z.Warmed39 s.vm) {own : String} {index : Nat} {v : Int32} (hown : s.vm.findClass own = some m.cls) (w : (Cond.constant own index v).before a0 Z = true) {g : JFrame} (hg : g.method = m) (hd : decode c.code g.pc = .ok (.ldc index, 2))
    (k : own_Go p.tables e below G (T.setTop { g with pc := g.pc + 2, stack := .int v :: g.stack })) : own_Go p.tables e below G (T.setTop g) := by
  obtain ⟨locs, X, eT, N⟩ := A
  exact own_go (X.ldcInt hx hown (mvT hZ w) hg hd) k
theorem own_ldcwI (A : own_At p l e R s m args below meth c n0 T h cells slots) (hx : p.tables.exec = Jvm.exec) (hZ : Z.Warmed39 s.vm) {own : String} {index : Nat} {v : Int32} (hown : s.vm.findClass own = some m.cls) (w : (Cond.constant own index v).before a0 Z = true) {g : JFrame} (hg : g.method = m) (hd : decode c.code g.pc = .ok (.ldc_w index, 3))
    (k : own_Go p.tables e below G (T.setTop { g with pc := g.pc + 3, stack := .int v :: g.stack })) : own_Go p.tables e below G (T.setTop g) := by
  obtain ⟨locs, X, eT, N⟩ := A
  exact own_go (X.ldcwInt hx hown (mvT hZ w) hg hd) k
theorem own_ldcJ (A : own_At p l e R s m args below meth c n0 T h cells slots) (hx : p.tables.exec = Jvm.exec) (hZ : Z.Warmed39 s.vm) {own : String} {index : Nat} {v : Int64} (hown : s.vm.findClass own = some m.cls) (w : (Cond.constantLong own index v).before a0 Z = true) {g : JFrame} (hg : g.method = m) (hd : decode c.code g.pc = .ok (.ldc2_w index, 3))
    (k : own_Go p.tables e below G (T.setTop { g with pc := g.pc + 3, stack := .long v :: g.stack })) : own_Go p.tables e below G (T.setTop g) := by
  obtain ⟨locs, X, eT, N⟩ := A
  exact own_go (X.ldc2Long hx hown (mvT hZ w) hg hd) k
/-- irem, with Java's sign -/
theorem own_irem {tb : Tables} [Ours tb] {target : State} {g : JFrame} (hh : At T m c below) (hx : tb.exec = Jvm.exec) (hg : g.method = m) {x y : Int32} {rest : List Value} (hd : decode c.code g.pc = .ok (.irem, 1)) (hs : g.stack = .int y :: .int x :: rest) (hy : y ≠ 0)
    (hr : Steps tb e below (T.setTop { g with pc := g.pc + 1, stack := .int (x % y) :: rest }) target) : Steps tb e below (T.setTop g) target :=
  XS.irem hh hx hg hd hs hy (by rw [irem_eq_mod]; exact hr)
theorem own_lrem {tb : Tables} [Ours tb] {target : State} {g : JFrame} (hh : At T m c below) (hx : tb.exec = Jvm.exec) (hg : g.method = m) {x y : Int64} {rest : List Value} (hd : decode c.code g.pc = .ok (.lrem, 1)) (hs : g.stack = .long y :: .long x :: rest) (hy : y ≠ 0)
    (hr : Steps tb e below (T.setTop { g with pc := g.pc + 1, stack := .long (x % y) :: rest }) target) : Steps tb e below (T.setTop g) target :=
  XS.lrem hh hx hg hd hs hy (by rw [lrem_mod]; exact hr)
theorem own_aeq {a b : Addr} (h : a = b) : if_acmp.holds .eq (some a) (some b) = true ∧ if_acmp.holds .ne (some a) (some b) = false := by simp [if_acmp.holds, h]
theorem own_ane {a b : Addr} (h : ¬ a = b) : if_acmp.holds .eq (some a) (some b) = false ∧ if_acmp.holds .ne (some a) (some b) = true := by simp [if_acmp.holds, h]
end OwnKit
section OwnHeap
variable {p : Program} {l : Launch} {e : Env} {R : Room} {s : State} {m : MethodId} {args : Array Value} {below : List Frame} {meth : Method} {c : Code} {T : State} {cells slots : Nat} {Z : State} {a0 : Array Value} {h h' : Heap} {n0 : Nat} {G : State → Outcome → Prop} {a b : Addr} {ty : FieldType} {n j : Int32} {f : Int32 → Int32}
/-- an array of ints (bytes, chars, booleans, shorts): its length is n, its place i holds f i -/
def own_Arr (Z : State) (h : Heap) (a : Addr) (ty : FieldType) (n : Int32) (f : Int32 → Int32) : Prop :=
  ∃ cl : Cell, Arr Z h a cl ty ∧ cl.slots.size = n.toNatClampNeg ∧ ¬ n < 0 ∧ ∀ j : Int32, ¬ j < 0 → j < n → cl.slots[j.toNatClampNeg]? = some (.int (f j))
theorem own_Arr.lt (F : own_Arr Z h a ty n f) : a < h.size := by obtain ⟨_, A, -⟩ := F; exact A.lt
theorem own_Arr.ext (F : own_Arr Z h a ty n f) (E : Ext h h') : own_Arr Z h' a ty n f := by obtain ⟨c, A, r⟩ := F; exact ⟨c, A.ext E, r⟩
theorem own_Arr.other {sl : Nat} {v : Value} (F : own_Arr Z h b ty n f) (W : Wr h h' a sl v) (q : b ≠ a) : own_Arr Z h' b ty n f := by obtain ⟨c, A, r⟩ := F; exact ⟨c, A.other W q, r⟩
theorem own_Arr.keep {ws : List Addr} (F : own_Arr Z h a ty n f) (K : Keep h h' ws) (q : a ∉ ws) : own_Arr Z h' a ty n f := by obtain ⟨c, A, r⟩ := F; exact ⟨c, ⟨K.2.1 a c A.1 q, A.2⟩, r⟩
theorem own_Arr.nn (F : own_Arr Z h a ty n f) : ¬ n < 0 := by obtain ⟨_, -, -, q, -⟩ := F; exact q
theorem own_Arr.congr {f' : Int32 → Int32} (F : own_Arr Z h a ty n f) (q : ∀ i, ¬ i < 0 → i < n → f i = f' i) : own_Arr Z h a ty n f' := by
  obtain ⟨c, A, r1, r2, r3⟩ := F
  exact ⟨c, A, r1, r2, fun i hi hn => by rw [r3 i hi hn, q i hi hn]⟩
theorem own_same {i j : Int32} (hi : ¬ i < 0) (hj : ¬ j < 0) (e : i.toNatClampNeg = j.toNatClampNeg) : i = j := by
  apply Int32.toInt_inj.mp
  rw [nat_of hi, nat_of hj, e]
theorem own_Arr.set {v : Int32} (F : own_Arr Z h a ty n f) (hj : ¬ j < 0) (W : Wr h h' a j.toNatClampNeg (.int v)) : own_Arr Z h' a ty n (fun i => if i = j then v else f i) := by
  obtain ⟨c, A, r1, r2, r3⟩ := F
  refine ⟨c.setSlot j.toNatClampNeg (.int v), A.same W, by rw [sz_set]; exact r1, r2, fun i hi hn => ?_⟩
  have hin := inb_of r1 ⟨hi, hn⟩
  by_cases q : i = j
  · subst q
    show _ = some (Value.int (if i = i then v else f i))
    rw [get_hit hin rfl, if_pos rfl]
  · show _ = some (Value.int (if i = j then v else f i))
    rw [get_miss hj hi q, r3 i hi hn, if_neg q]
theorem own_newO (A : own_At p l e R s m args below meth c n0 T h cells slots) (hx : p.tables.exec = Jvm.exec) (hZ : Z.Warmed39 s.vm) {own C : String} {index k : Nat} (hown : s.vm.findClass own = some m.cls) (w : (Cond.classLink own index C).before a0 Z = true) (wi : (Cond.instantiable C k).before a0 Z = true) (wz : (Cond.initialized C).before a0 Z = true)
    {g : JFrame} (hg : g.method = m) (hd : decode c.code g.pc = .ok (.new index, 3)) (hc : cells + 1 ≤ R.cells) (hl : slots + k ≤ R.slots)
    (kk : ∀ T' h' a, a = h.size → own_At p l e R s m args below meth c n0 T' h' (cells + 1) (slots + k) → Ext h h' → Exa Z h' a C → (∀ {O nm d : String} {ty : FieldType}, Laid Z a0 C O nm d → parseFieldDescriptor d = some ty → Fld Z h' a O nm d (defaultValue ty)) → own_Go p.tables e below G (T'.setTop { g with pc := g.pc + 3, stack := .ref a :: g.stack })) : own_Go p.tables e below G (T.setTop g) := by
  obtain ⟨locs, X, eT, N⟩ := A
  obtain ⟨T1, h1, X1, e1, E1, A1, D1, -, st⟩ := newO X hx hZ hown w wi wz eT hg hd hc hl
  exact own_go st (kk T1 h1 h.size rfl ⟨_, X1, e1, N⟩ E1 A1 D1)
theorem own_newP (A : own_At p l e R s m args below meth c n0 T h cells slots) (hx : p.tables.exec = Jvm.exec) (hZ : Z.Warmed39 s.vm) {aty : ArrayType} (w : (Cond.arrayClass (newarray.typeOf aty)).before a0 Z = true) (hty : defaultValue (newarray.typeOf aty) = .int 0) {g : JFrame} (hg : g.method = m) (hd : decode c.code g.pc = .ok (.newarray aty, 2)) {rest : List Value} (hs : g.stack = .int n :: rest)
    (hn : ¬ n < 0) (cap : Nat) (hcap : n.toNatClampNeg ≤ cap) (hb : cap * 8 ≤ 536870912) (hc : cells + 1 ≤ R.cells) (hl : slots + cap ≤ R.slots)
    (kk : ∀ T' h' a, a = h.size → own_At p l e R s m args below meth c n0 T' h' (cells + 1) (slots + cap) → Ext h h' → own_Arr Z h' a (newarray.typeOf aty) n (fun _ => 0) → (∃ k, Arv Z h' a k (newarray.typeOf aty) n [] (.int 0)) → own_Go p.tables e below G (T'.setTop { g with pc := g.pc + 2, stack := .ref a :: rest })) : own_Go p.tables e below G (T.setTop g) := by
  obtain ⟨locs, X, eT, N⟩ := A
  obtain ⟨T1, h1, k1, X1, e1, E1, A1, st⟩ := newP X hx hZ w eT hg hd hs hn hcap hb hc hl
  refine own_go st (kk T1 h1 h.size rfl ⟨_, X1, e1, N⟩ E1 ⟨_, A1, sz_new _ _ _, hn, fun i hi hin => ?_⟩ ⟨k1, hty ▸ Arv.new A1 hn⟩)
  have q := inb_of (c := newA k1 (newarray.typeOf aty) n) (sz_new _ _ _) ⟨hi, hin⟩
  rw [sz_new] at q
  rw [get_new q, hty]
theorem own_putF (A : own_At p l e R s m args below meth c n0 T h cells slots) (hx : p.tables.exec = Jvm.exec) (hZ : Z.Warmed39 s.vm) {own R0 O nm d host C : String} {index kk : Nat} (hown : s.vm.findClass own = some m.cls) (w : (Cond.fieldLink own index R0 nm d).before a0 Z = true ∨ (Cond.fieldLinkNest own index R0 nm d host).before a0 Z = true) (via : Via Z R0 O nm d)
    {v old : Value} (F : Fld Z h a O nm d old) (E : Exa Z h a C) (L : (Cond.lays C O nm d).before a0 Z = true ∨ ((Cond.laysFinal C O nm d).before a0 Z = true ∧ own = O ∧ meth.name = "<init>")) (wi : (Cond.instantiable C kk).before a0 Z = true)
    (hty : parseFieldDescriptor d = some ty) (hn : narrow ty v = v) (hf : fits ty v = true) (q : n0 ≤ a) {g : JFrame} (hg : g.method = m) {rest : List Value} (hs : g.stack = v :: .ref a :: rest) (hd : decode c.code g.pc = .ok (.putfield index, 3))
    (k : ∀ T' h', own_At p l e R s m args below meth c n0 T' h' cells slots → Wr h h' a (Jvm.RoadKit.slotOf Z O nm d) v → own_Go p.tables e below G (T'.setTop { g with pc := g.pc + 3, stack := rest })) : own_Go p.tables e below G (T.setTop g) := by
  obtain ⟨locs, X, eT, N⟩ := A
  obtain ⟨T1, h1, X1, e1, W1, st⟩ := putF X hx hZ hown w via eT F E L wi hty hn hf hg hs hd
  exact own_go st (k T1 h1 ⟨_, X1, e1, Fr.snoc X1 N q⟩ W1)
theorem own_stI (A : own_At p l e R s m args below meth c n0 T h cells slots) (hx : p.tables.exec = Jvm.exec) (hZ : Z.Warmed39 s.vm) {v : Int32} (F : own_Arr Z h a .int n f) (hj : ¬ j < 0 ∧ j < n) (q : n0 ≤ a) {g : JFrame} (hg : g.method = m) {rest : List Value} (hs : g.stack = .int v :: .int j :: .ref a :: rest) (hd : decode c.code g.pc = .ok (.iastore, 1))
    (k : ∀ T' h', own_At p l e R s m args below meth c n0 T' h' cells slots → Wr h h' a j.toNatClampNeg (.int v) → own_Arr Z h' a .int n (fun i => if i = j then v else f i) → own_Go p.tables e below G (T'.setTop { g with pc := g.pc + 1, stack := rest })) : own_Go p.tables e below G (T.setTop g) := by
  obtain ⟨locs, X, eT, N⟩ := A
  obtain ⟨c1, A1, S1, M1, H1⟩ := id F
  obtain ⟨T1, h1, X1, e1, W1, st⟩ := stI X hx hZ eT A1 (inb_of S1 hj) hg hs hd
  exact own_go st (k T1 h1 ⟨_, X1, e1, Fr.snoc X1 N q⟩ W1 (F.set hj.1 W1))
theorem own_stB (A : own_At p l e R s m args below meth c n0 T h cells slots) (hx : p.tables.exec = Jvm.exec) (hZ : Z.Warmed39 s.vm) {v : Int32} (F : own_Arr Z h a .byte n f) (hj : ¬ j < 0 ∧ j < n) (q : n0 ≤ a) {g : JFrame} (hg : g.method = m) {rest : List Value} (hs : g.stack = .int v :: .int j :: .ref a :: rest) (hd : decode c.code g.pc = .ok (.bastore, 1))
    (k : ∀ T' h', own_At p l e R s m args below meth c n0 T' h' cells slots → Wr h h' a j.toNatClampNeg (.int (nar .byte v)) → own_Arr Z h' a .byte n (fun i => if i = j then nar .byte v else f i) → own_Go p.tables e below G (T'.setTop { g with pc := g.pc + 1, stack := rest })) : own_Go p.tables e below G (T.setTop g) := by
  obtain ⟨locs, X, eT, N⟩ := A
  obtain ⟨c1, A1, S1, M1, H1⟩ := id F
  obtain ⟨T1, h1, X1, e1, W1, st⟩ := stB X hx hZ eT A1 (inb_of S1 hj) hg hs hd
  exact own_go st (k T1 h1 ⟨_, X1, e1, Fr.snoc X1 N q⟩ W1 (F.set hj.1 W1))
theorem own_stC (A : own_At p l e R s m args below meth c n0 T h cells slots) (hx : p.tables.exec = Jvm.exec) (hZ : Z.Warmed39 s.vm) {v : Int32} (F : own_Arr Z h a .char n f) (hj : ¬ j < 0 ∧ j < n) (q : n0 ≤ a) {g : JFrame} (hg : g.method = m) {rest : List Value} (hs : g.stack = .int v :: .int j :: .ref a :: rest) (hd : decode c.code g.pc = .ok (.castore, 1))
    (k : ∀ T' h', own_At p l e R s m args below meth c n0 T' h' cells slots → Wr h h' a j.toNatClampNeg (.int (nar .char v)) → own_Arr Z h' a .char n (fun i => if i = j then nar .char v else f i) → own_Go p.tables e below G (T'.setTop { g with pc := g.pc + 1, stack := rest })) : own_Go p.tables e below G (T.setTop g) := by
  obtain ⟨locs, X, eT, N⟩ := A
  obtain ⟨c1, A1, S1, M1, H1⟩ := id F
  obtain ⟨T1, h1, X1, e1, W1, st⟩ := stC X hx hZ eT A1 (inb_of S1 hj) hg hs hd
  exact own_go st (k T1 h1 ⟨_, X1, e1, Fr.snoc X1 N q⟩ W1 (F.set hj.1 W1))
theorem own_ldI (A : own_At p l e R s m args below meth c n0 T h cells slots) (hx : p.tables.exec = Jvm.exec) (hZ : Z.Warmed39 s.vm) (F : own_Arr Z h a .int n f) (hj : ¬ j < 0 ∧ j < n) {g : JFrame} (hg : g.method = m) {rest : List Value} (hs : g.stack = .int j :: .ref a :: rest) (hd : decode c.code g.pc = .ok (.iaload, 1))
    (k : own_Go p.tables e below G (T.setTop { g with pc := g.pc + 1, stack := .int (f j) :: rest })) : own_Go p.tables e below G (T.setTop g) := by
  obtain ⟨locs, X, eT, N⟩ := A
  obtain ⟨c1, A1, S1, M1, H1⟩ := F
  exact own_go (fun t k => X.iaload hx (by rw [eT]; exact A1.1) (State.isArrayOf_alike hZ.alike A1.2.1) A1.2.2 (inb_of S1 hj) (H1 j hj.1 hj.2) hg hs hd t k) k
theorem own_ldB (A : own_At p l e R s m args below meth c n0 T h cells slots) (hx : p.tables.exec = Jvm.exec) (hZ : Z.Warmed39 s.vm) (F : own_Arr Z h a .byte n f) (hj : ¬ j < 0 ∧ j < n) {g : JFrame} (hg : g.method = m) {rest : List Value} (hs : g.stack = .int j :: .ref a :: rest) (hd : decode c.code g.pc = .ok (.baload, 1))
    (k : own_Go p.tables e below G (T.setTop { g with pc := g.pc + 1, stack := .int (f j) :: rest })) : own_Go p.tables e below G (T.setTop g) := by
  obtain ⟨locs, X, eT, N⟩ := A
  obtain ⟨c1, A1, S1, M1, H1⟩ := F
  exact own_go (fun t k => X.baloadBytes hx (by rw [eT]; exact A1.1) (State.isArrayOf_alike hZ.alike A1.2.1) A1.2.2 (inb_of S1 hj) (H1 j hj.1 hj.2) hg hs hd t k) k
theorem own_ldC (A : own_At p l e R s m args below meth c n0 T h cells slots) (hx : p.tables.exec = Jvm.exec) (hZ : Z.Warmed39 s.vm) (F : own_Arr Z h a .char n f) (hj : ¬ j < 0 ∧ j < n) {g : JFrame} (hg : g.method = m) {rest : List Value} (hs : g.stack = .int j :: .ref a :: rest) (hd : decode c.code g.pc = .ok (.caload, 1))
    (k : own_Go p.tables e below G (T.setTop { g with pc := g.pc + 1, stack := .int (f j) :: rest })) : own_Go p.tables e below G (T.setTop g) := by
  obtain ⟨locs, X, eT, N⟩ := A
  obtain ⟨c1, A1, S1, M1, H1⟩ := F
  exact own_go (fun t k => X.caload hx (by rw [eT]; exact A1.1) (State.isArrayOf_alike hZ.alike A1.2.1) A1.2.2 (inb_of S1 hj) (H1 j hj.1 hj.2) hg hs hd t k) k
theorem own_len (A : own_At p l e R s m args below meth c n0 T h cells slots) (hx : p.tables.exec = Jvm.exec) (hZ : Z.Warmed39 s.vm) (F : own_Arr Z h a ty n f) {g : JFrame} (hg : g.method = m) {rest : List Value} (hs : g.stack = .ref a :: rest) (hd : decode c.code g.pc = .ok (.arraylength, 1))
    (k : own_Go p.tables e below G (T.setTop { g with pc := g.pc + 1, stack := .int n :: rest })) : own_Go p.tables e below G (T.setTop g) := by
  obtain ⟨locs, X, eT, N⟩ := A
  obtain ⟨c1, A1, S1, M1, H1⟩ := F
  rw [← len_of S1 M1] at k
  exact own_go (fun t k => X.arraylength hx (by rw [eT]; exact A1.1) (State.isArrayOf_alike hZ.alike A1.2.1) hg hs hd t k) k
end OwnHeap
/-! small naturals as ints -/
theorem own_nI {i : Nat} (hi : i < 2 ^ 31) : (Int32.ofNat i).toInt = (i : Int) := Int32.toInt_ofNat_small hi
theorem own_nlt {i j : Nat} (hi : i < 2 ^ 31) (hj : j < 2 ^ 31) : (Int32.ofNat i < Int32.ofNat j) ↔ i < j := by rw [Int32.lt_iff_toInt_lt, own_nI hi, own_nI hj]; omega
theorem own_nn {i : Nat} (hi : i < 2 ^ 31) : ¬ Int32.ofNat i < 0 := by rw [Int32.lt_iff_toInt_lt, own_nI hi]; have : (0 : Int32).toInt = 0 := rfl; omega
theorem own_neq {i j : Nat} (hi : i < 2 ^ 31) (hj : j < 2 ^ 31) : (Int32.ofNat i = Int32.ofNat j) ↔ i = j := by rw [← Int32.toInt_inj, own_nI hi, own_nI hj]; omega
theorem own_nadd (i j : Nat) : Int32.ofNat i + Int32.ofNat j = Int32.ofNat (i + j) := (Int32.ofNat_add i j).symm
theorem own_nmul (i j : Nat) : Int32.ofNat i * Int32.ofNat j = Int32.ofNat (i * j) := (Int32.ofNat_mul i j).symm
theorem own_succ (i : Nat) : Int32.ofNat i + (1 : Int32) = Int32.ofNat (i + 1) := own_nadd i 1
theorem own_dbl (i : Nat) : (2 : Int32) * Int32.ofNat i = Int32.ofNat (2 * i) := own_nmul 2 i
theorem own_prd (i : Nat) : Int32.ofNat (i + 1) + (-1 : Int32) = Int32.ofNat i := by rw [← own_succ, Int32.add_assoc]; show Int32.ofNat i + 0 = _; rw [Int32.add_zero]
theorem own_sub1 (i : Nat) : Int32.ofNat (i + 1) - (1 : Int32) = Int32.ofNat i := by rw [← own_succ, Int32.add_sub_cancel]
theorem own_nge {i j : Nat} (hi : i < 2 ^ 31) (hj : j < 2 ^ 31) (h : ¬ Int32.ofNat i < Int32.ofNat j) : j ≤ i := Nat.le_of_not_lt fun z => h ((own_nlt hi hj).mpr z)
section OwnSta
variable {s : State} {args : Array Value} {t : Term} {a : Addr} {C n d K : String} {w : Value}
theorem own_eqV {x y : Term} (hh : (Cond.eq x y).value args s none s [] = some true) (hy : y.eval args s none [] s = some w) : x.eval args s none [] s = some w := by
  cases hx : x.eval args s none [] s with
  | none => simp [Cond.value, hx] at hh
  | some v => cases v <;> cases w <;> simp [Cond.value, hx, hy] at hh ⊢ <;> exact hh
theorem own_sta (hh : (Cond.exactly (Term.static C n d) K).value args s none s [] = some true) (w1 : (Cond.initialized C).before args s = true) (w2 : (Cond.laysStatic C n d).before args s = true) :
    ∃ a, Sta s s.heap C n d (.ref a) ∧ Exa s s.heap a K ∧ (Term.static C n d).eval args s none [] s = some (.ref a) := by
  obtain ⟨a, ev⟩ := exa_v hh
  exact ⟨a, Sta.start ev (Or.inr ⟨w1, w2⟩), Exa.start ev hh, ev⟩
theorem own_fldS {y : Term} (hh : (Cond.eq (Term.field t C n d) y).value args s none s [] = some true) (ev : t.eval args s none [] s = some (.ref a)) (hy : y.eval args s none [] s = some w) : Fld s s.heap a C n d w := by
  have q := own_eqV hh hy
  rw [fld_at ev] at q
  exact Fld.start q
theorem own_baloadZ {p : Program} {l : Launch} {e : Env} {R : Room} {m : MethodId} {below : List Frame} {meth : Method} {c : Code} {T : State} {cells slots : Nat} {Z : State} {h : Heap} {n0 : Nat} {G : State → Outcome → Prop} (A : own_At p l e R s m args below meth c n0 T h cells slots) (hx : p.tables.exec = Jvm.exec) (hZ : Z.Warmed39 s.vm) {cl : Cell} {z j : Int32} (F : Tab Z h a cl .boolean z) (hj : ¬ j < 0 ∧ j < z) {g : JFrame} (hg : g.method = m) {rest : List Value} (hs : g.stack = .int j :: .ref a :: rest) (hd : decode c.code g.pc = .ok (.baload, 1))
    (k : own_Go p.tables e below G (T.setTop { g with pc := g.pc + 1, stack := .int (atv cl j) :: rest })) : own_Go p.tables e below G (T.setTop g) := by
  obtain ⟨locs, X, eT, N⟩ := A
  obtain ⟨A1, S1, -, H1⟩ := F
  have hin := inb_of S1 hj
  exact own_go (fun t k => X.baloadBooleans hx (by rw [eT]; exact A1.1) (State.isArrayOf_alike hZ.alike A1.2.1) A1.2.2 hin (H1 j hin) hg hs hd t k) k
end OwnSta
section OwnTab
variable {s : State} {args : Array Value} {t : Term} {w : Addr} {cl : Cell} {z lo hi v i : Int32}
theorem own_lenI (h : (Cond.eq (Term.length t) (Term.int z)).value args s none s [] = some true) (ev : t.eval args s none [] s = some (.ref w)) (hat : s.arrayAt? w = some cl) : cl.slots.size < 2 ^ 31 ∧ cl.slots.size.toInt32 = z := by
  have q := own_eqV h (Term.int_eval z)
  by_cases hl : cl.slots.size < 2 ^ 31
  · rw [len_f ev hat hl] at q
    exact ⟨hl, Value.int.inj (Option.some.inj q)⟩
  · simp [Term.eval, ev, hat, hl] at q
theorem own_allR (hat : s.arrayAt? w = some cl) (evI : ∀ idx, t.eval args s none idx s = some (.ref w)) (TB : Tab s s.heap w cl .boolean z) (h : (Cond.all t (Cond.or (Cond.lt (Term.index 0) (Term.int lo)) (Cond.or (Cond.le (Term.int hi) (Term.index 0)) (Cond.eq (Term.elem t (Term.index 0)) (Term.int v))))).value args s none s [] = some true) (j : Int32) (h0 : ¬ j < 0) (h1 : j < z) : j < lo ∨ ¬ j < hi ∨ atv cl j = v := by
  have hin := inb_of TB.2.1 ⟨h0, h1⟩
  have q := Cond.all_elim (evI []) hat h j.toNatClampNeg (Nat.lt_of_not_le fun y => hin (Or.inr y))
  exact or3 q (Cond.lt_ints (idx_at h0) (Term.int_eval lo)) (Cond.le_ints (Term.int_eval hi) (idx_at h0)) (Cond.eq_ints ((elem_f (evI _) (idx_at h0) hat h0).trans (TB.2.2.2 j hin)) (Term.int_eval v))
theorem own_allL (hat : s.arrayAt? w = some cl) (evI : ∀ idx, t.eval args s none idx s = some (.ref w)) (TB : Tab s s.heap w cl .boolean z) (h : (Cond.all t (Cond.or (Cond.le (Term.int hi) (Term.index 0)) (Cond.eq (Term.elem t (Term.index 0)) (Term.int v)))).value args s none s [] = some true) (j : Int32) (h0 : ¬ j < 0) (h1 : j < z) : hi ≤ j ∨ atv cl j = v := by
  have hin := inb_of TB.2.1 ⟨h0, h1⟩
  have q := Cond.all_elim (evI []) hat h j.toNatClampNeg (Nat.lt_of_not_le fun y => hin (Or.inr y))
  exact or_e2 (Cond.le_ints (Term.int_eval hi) (idx_at h0)) (Cond.eq_ints ((elem_f (evI _) (idx_at h0) hat h0).trans (TB.2.2.2 j hin)) (Term.int_eval v)) q
theorem own_allG (hat : s.arrayAt? w = some cl) (evI : ∀ idx, t.eval args s none idx s = some (.ref w)) (TB : Tab s s.heap w cl .boolean z) (h : (Cond.all t (Cond.or (Cond.lt (Term.index 0) (Term.int lo)) (Cond.eq (Term.elem t (Term.index 0)) (Term.int v)))).value args s none s [] = some true) (j : Int32) (h0 : ¬ j < 0) (h1 : j < z) : j < lo ∨ atv cl j = v := by
  have hin := inb_of TB.2.1 ⟨h0, h1⟩
  have q := Cond.all_elim (evI []) hat h j.toNatClampNeg (Nat.lt_of_not_le fun y => hin (Or.inr y))
  exact or_e2 (Cond.lt_ints (idx_at h0) (Term.int_eval lo)) (Cond.eq_ints ((elem_f (evI _) (idx_at h0) hat h0).trans (TB.2.2.2 j hin)) (Term.int_eval v)) q
theorem own_elt (evI : ∀ idx, t.eval args s none idx s = some (.ref w)) (hc : s.heap[w]? = some cl) (h : (Cond.eq (Term.elem t (Term.int i)) (Term.int v)).value args s none s [] = some true) : atv cl i = v :=
  atv_of (elem_in (own_eqV h (Term.int_eval v)) (evI []) (Term.int_eval i) hc).2
end OwnTab
section OwnW
variable {p : Program} {l : Launch} {e : Env} {R : Room} {s : State} {m : MethodId} {args : Array Value} {below : List Frame} {meth : Method} {c : Code} {T : State} {cells slots : Nat} {Z : State} {a0 : Array Value} {h : Heap} {n0 : Nat} {G : State → Outcome → Prop} {Q : Option Value → Heap → Prop} {vm0 : Vm} {k0 kc ks : Nat} {Ts : List String}
/-- the end of a body that may have interned -/
def own_EndW (n0 : Nat) (s : State) (kc ks : Nat) (Q : Option Value → Heap → Prop) : State → Outcome → Prop := fun s₂ o => ∃ v L, o = .returned v ∧ (Q v s₂.heap ∧ Fr n0 L) ∧ ReturnedEndW s o s₂ L kc ks
theorem own_leaveW (A : own_At p l e R (s.setVm vm0) m args below meth c n0 T h cells slots) (hS : s.Since vm0 k0) (hk : k0 ≤ h.size) {v : Option Value} (hv : meth.sig.returnType = none → v = none) (hlk : meth.locks = false) (hc : cells ≤ kc) (hs : slots ≤ ks) (q : Q v h) {U : State}
    (st : ∀ locs, Stand p l e R (s.setVm vm0) m args below meth c T locs cells slots → ∀ fs, (∀ (f : JFrame) (acts : List Action), f.method = m → f.locked = none → f.entered = [] → (doReturn e (T.setTop f) acts v).1 = T.setFrames fs) → Steps p.tables e below U (T.setFrames fs)) : own_Go p.tables e below (own_EndW n0 s kc ks Q) U := by
  obtain ⟨locs, X, rfl, N⟩ := A
  obtain ⟨fs, hr, hrun, hended, e1, e2, e3, e4⟩ := X.leaveW hS hk hv hlk
  exact ⟨_, _, st locs X fs hr, hrun, hended, _, _, rfl, ⟨q, N⟩, e1, e2, e3, e4.mono hc hs⟩
theorem own_retNW (A : own_At p l e R (s.setVm vm0) m args below meth c n0 T h cells slots) (hx : p.tables.exec = Jvm.exec) {t : FieldType} (hret : meth.sig.returnType = some t) (ht : t = .boolean ∨ t = .byte ∨ t = .char ∨ t = .short) (hlk : meth.locks = false) (hc : cells ≤ kc) (hs : slots ≤ ks) (hS : s.Since vm0 k0) (hk : k0 ≤ h.size) {pc : Nat} {Ls : Array Slot} {z : Int32} {rest : List Value} (hd : decode c.code pc = .ok (.ireturn, 1)) (q : Q (some (.int (nar t z))) h) :
    own_Go p.tables e below (own_EndW n0 s kc ks Q) (T.setTop (mkF m pc Ls (.int z :: rest))) :=
  own_leaveW A hS hk (fun q => by rw [hret] at q; cases q) hlk hc hs q fun _ X _ hr => retN X hx hret ht hd hr
/-- a contract of a body that may intern: Ts are the texts that the run has loaded before -/
def own_MetW (l : Launch) (Z : State) (n0 : Nat) (y : MethodName) (bytes : ByteArray) (maxL : Nat) (ret : Option FieldType) (rm : Room) (as' : Array Value) (h0 : Heap) (Ts : List String) (Q : Option Value → Heap → Prop) : Prop :=
  ∀ ws, MetFree l y (head1 (Cond.code y bytes maxL ret :: ws) rm) (fun a U => a = as' ∧ Z.Warmed39 U.vm ∧ U.heap = h0 ∧ IB Z U.vm Ts) (fun _ _ _ _ _ => True) (fun _ U o U' => ∃ v L, o = .returned v ∧ (Q v U'.heap ∧ Fr n0 L) ∧ ReturnedEndW U o U' L rm.cells rm.slots)
theorem own_metW {y : MethodName} {bytes : ByteArray} {maxL : Nat} {ret : Option FieldType} {rm : Room} {as' : Array Value} {h0 : Heap} (hp : plainFor y = true)
    (body : ∀ (p : Program) (e : Env) (s : State) (m : MethodId) (below : List Frame) (meth : Method) (c : Code) (T : State), p.tables.exec = Jvm.exec → c.code = bytes → c.maxLocals = maxL → (s.setVm s.vm).vm.findClass y.cls = some m.cls → meth.name = y.name → meth.sig.returnType = ret → meth.locks = false → Z.Warmed39 (s.setVm s.vm).vm →
      own_At p l e rm (s.setVm s.vm) m as' below meth c n0 T h0 0 0 → s.heap = h0 → s.Since s.vm 0 → IB Z s.vm Ts → own_Go p.tables e below (own_EndW n0 s rm.cells rm.slots Q) (T.setTop (entryFrame m as' maxL))) : own_MetW l Z n0 y bytes maxL ret rm as' h0 Ts Q := by
  intro ws
  refine MetFree.of_bodySF hp hisR ?_
  intro p e s m args below meth c s₁ Bd hml0 hP hK
  obtain ⟨rfl, hZ, hh, hI⟩ := hP
  exact body p e s m below meth c s₁ Bd.exec Bd.bytes hml0 (findClass_of_methodNamed Bd.named) (name_of_methodNamed Bd.named Bd.method).1 Bd.returns Bd.notSynchronized hZ ⟨[], Stand.of_body Bd, by rw [← hh, Bd.state]; rfl, Fr.nil n0⟩ hh ((State.WarmedH.refl s).since 0) hI
theorem own_Arr.ofL {b : Addr} {ty : FieldType} {k : ClassId} {z : Int32} {xs : List Int32} {d : Value} (V : Arv Z h b k ty z (xs.map Value.int) d) (hl : z.toNatClampNeg = xs.length) : own_Arr Z h b ty z (fun j => xs.getD j.toNatClampNeg 0) := by
  obtain ⟨cl, A, -, S, M, H, -⟩ := V
  refine ⟨cl, A, S, M, fun j h0 h1 => ?_⟩
  have hj : j.toNatClampNeg < cl.slots.size := by
    have q := inb_of S ⟨h0, h1⟩
    exact Nat.lt_of_not_le fun z => q (Or.inr z)
  have q := H j.toNatClampNeg hj
  show _ = some (Value.int (xs.getD j.toNatClampNeg 0))
  rw [q, List.getD_eq_getElem?_getD, List.getElem?_map, List.getD_eq_getElem?_getD]
  rw [S, hl] at hj
  rw [List.getElem?_eq_getElem hj]
  rfl
/-- ldc of a String constant, cold or warm: what lies behind it -/
theorem own_ldcV (A : own_At p l e R (s.setVm vm0) m args below meth c n0 T h cells slots) (hx : p.tables.exec = Jvm.exec) (hZ : Z.Warmed39 (s.setVm vm0).vm) {own text : String} {index : Nat} (hown : (s.setVm vm0).vm.findClass own = some m.cls) (w : (Cond.stringLink own index text).before a0 Z = true) (wS : ∀ a ∈ Bundle.stringAtoms, a.before a0 Z = true)
    (hS : s.Since vm0 k0) (hk : k0 ≤ h.size) (hn0 : s.heap.size ≤ n0) (hkeep : ∀ (b : Addr) (cl : Cell), Z.heap[b]? = some cl → s.heap[b]? = some cl) (I : IB Z vm0 Ts) (hnot : text ∉ Ts) (hh : Jvm.Lit.constHeld Z own index) (hcw : Jvm.Lit.compactW.before a0 Z = true)
    {xs : List Int32} {z : Int32} (ht : (∀ c ∈ text.toList, c.toNat < 256) ∧ text.toList.map (fun c => Value.int (Jvm.Lit.byteI c.toNat.toUInt16)) = xs.map Value.int) (hz : ¬ z < 0) (hl : z.toNatClampNeg = xs.length)
    {g : JFrame} (hg : g.method = m) (hd : decode c.code g.pc = .ok (.ldc index, 2)) (n : Nat) (hn : 4 * text.toList.length ≤ n) (hbig : n ≤ 536870912) (hc : cells + 2 ≤ R.cells) (hl' : slots + (n + 4) ≤ R.slots)
    (k : ∀ T' h' a b vm1 k1, own_At p l e R (s.setVm vm1) m args below meth c n0 T' h' (cells + 2) (slots + (n + 4)) → Ext h h' → s.Since vm1 k1 → k1 ≤ h'.size → Z.Warmed39 (s.setVm vm1).vm → (s.setVm vm1).vm.findClass own = some m.cls → IB Z vm1 (text :: Ts) →
      Exa Z h' a "java/lang/String" → Fld Z h' a "java/lang/String" "coder" "B" (.int 0) → Fld Z h' a "java/lang/String" "value" "[B" (.ref b) → own_Arr Z h' b .byte z (fun j => xs.getD j.toNatClampNeg 0) → own_Go p.tables e below G (T'.setTop { g with pc := g.pc + 2, stack := .ref a :: g.stack })) : own_Go p.tables e below G (T.setTop g) := by
  obtain ⟨locs, X, eT, N⟩ := A
  obtain ⟨a, T', h', k1, b, kk, r1, r2, r3, r4, r5, r6, r7, r8, r9, r10, r11, r12, r13, r14, r15⟩ := ldcSV X hx hZ hown w wS eT hS hk (fun y hy => Nat.le_trans hn0 (N y hy)) hkeep I hnot hh hcw ht hz (by rw [List.length_map]; exact hl) hg hd hn hbig hc hl'
  exact own_go r15 (k T' h' a b T'.vm k1 ⟨_, r1, r2, N⟩ r3 r4 r5 r6 r7 r14 r8 r9 r10 (own_Arr.ofL r11 hl))
end OwnW
section OwnStr
variable {p : Program} {l : Launch} {e : Env} {R : Room} {s : State} {args : Array Value} {below : List Frame} {Z : State} {a0 : Array Value} {h h' : Heap} {n0 : Nat} {a b x : Addr} {ty : FieldType} {N : Int32} {f : Int32 → Int32}
theorem own_ofN {j : Int32} (hj : ¬ j < 0) : Int32.ofNat j.toNatClampNeg = j := (back32 hj).1
theorem own_toN {k : Nat} (hk : k < 2 ^ 31) : (Int32.ofNat k).toNatClampNeg = k := by
  rw [Int32.toNatClampNeg, own_nI hk]
  exact Int.toNat_natCast _
def own_lst (f : Int32 → Int32) (n : Nat) : List Int32 := (List.range n).map fun i => f (Int32.ofNat i)
theorem own_lst_len (f : Int32 → Int32) (n : Nat) : (own_lst f n).length = n := by simp [own_lst]
theorem own_lst_at (f : Int32 → Int32) (n k : Nat) (hk : k < n) (g : Int32 → Value) (d : Value) : ((own_lst f n).map g).getD k d = g (f (Int32.ofNat k)) := by
  rw [List.getD_eq_getElem?_getD, own_lst, List.map_map, List.getElem?_map, List.getElem?_range hk]
  rfl
theorem own_lst_mem (f : Int32 → Int32) (n : Nat) {c : Int32} (hc : c ∈ own_lst f n) : ∃ k, k < n ∧ c = f (Int32.ofNat k) := by
  obtain ⟨k, hk, e⟩ := List.mem_map.mp hc
  exact ⟨k, List.mem_range.mp hk, e.symm⟩
theorem own_Arr.arv {n : Nat} (F : own_Arr Z h a ty (Int32.ofNat n) f) (hn : n < 2 ^ 31) (hf : ∀ k, k < n → fits ty (.int (f (Int32.ofNat k))) = true) : ∃ k, Arv Z h a k ty (Int32.ofNat n) ((own_lst f n).map Value.int) (.int 0) := by
  obtain ⟨cl, A, S, M, H⟩ := F
  have S' : cl.slots.size = n := by rw [S, own_toN hn]
  refine ⟨cl.cls, cl, A, rfl, S, M, fun k hk => ?_, fun k hk => ?_⟩
  · have q := H (Int32.ofNat k) (own_nn (by omega)) ((own_nlt (by omega) hn).mpr (by omega))
    rw [own_toN (by omega)] at q
    rw [q, own_lst_at f n k (by omega)]
  · rw [own_lst_at f n k (by omega)]
    exact hf k (by omega)
theorem own_Arr.ofArv {n : Nat} {k : ClassId} {g : Int32 → Int32} {d : Value} (V : Arv Z h a k ty (Int32.ofNat n) (((own_lst f n).map g).map Value.int) d) (hn : n < 2 ^ 31) : own_Arr Z h a ty (Int32.ofNat n) (fun j => g (f j)) := by
  obtain ⟨cl, A, -, S, M, H, -⟩ := V
  refine ⟨cl, A, S, M, fun j h0 h1 => ?_⟩
  have hj : j.toNatClampNeg < n := by
    have q := inb_of S ⟨h0, h1⟩
    rw [S, own_toN hn] at q
    exact Nat.lt_of_not_le fun z => q (Or.inr z)
  have q := H j.toNatClampNeg (by rw [S, own_toN hn]; exact hj)
  rw [List.map_map, own_lst_at f n _ hj] at q
  rw [q, own_ofN h0]
  rfl
theorem own_fitC {z : Int32} (h0 : ¬ z < 0) (h1 : ¬ (255 : Int32) < z) : fits .char (.int z) = true := by
  have e1 : (255 : Int32).toInt = 255 := rfl
  have e0 : (0 : Int32).toInt = 0 := rfl
  have e2 : (65535 : Int32).toInt = 65535 := rfl
  rw [Int32.lt_iff_toInt_lt] at h0 h1
  simp only [fits, Bool.and_eq_true, decide_eq_true_eq]
  exact ⟨Int32.le_iff_toInt_le.mpr (by omega), Int32.le_iff_toInt_le.mpr (by omega)⟩
end OwnStr
section OwnRef
variable {p : Program} {l : Launch} {e : Env} {R : Room} {s : State} {m : MethodId} {args : Array Value} {below : List Frame} {meth : Method} {c : Code} {T : State} {cells slots : Nat} {Z : State} {a0 : Array Value} {h h' : Heap} {n0 : Nat} {G : State → Outcome → Prop} {a b : Addr} {n j : Int32} {f : Int32 → Int32} {C : String}
/-- an array of references to objects of C: its length alone is told -/
def own_ArrR (Z : State) (h : Heap) (a : Addr) (C : String) (n : Int32) : Prop := ∃ cl : Cell, Arr Z h a cl (.object C) ∧ cl.slots.size = n.toNatClampNeg ∧ ¬ n < 0 ∧ Ovr Z cl.cls C
theorem own_ArrR.lt (F : own_ArrR Z h a C n) : a < h.size := by obtain ⟨_, A, -⟩ := F; exact A.lt
theorem own_ArrR.ext (F : own_ArrR Z h a C n) (E : Ext h h') : own_ArrR Z h' a C n := by obtain ⟨c, A, r⟩ := F; exact ⟨c, A.ext E, r⟩
theorem own_ArrR.other {sl : Nat} {v : Value} (F : own_ArrR Z h b C n) (W : Wr h h' a sl v) (q : b ≠ a) : own_ArrR Z h' b C n := by obtain ⟨c, A, r⟩ := F; exact ⟨c, A.other W q, r⟩
theorem own_ArrR.keep {ws : List Addr} (F : own_ArrR Z h a C n) (K : Keep h h' ws) (q : a ∉ ws) : own_ArrR Z h' a C n := by obtain ⟨c, A, r⟩ := F; exact ⟨c, ⟨K.2.1 a c A.1 q, A.2⟩, r⟩
theorem own_newR (A : own_At p l e R s m args below meth c n0 T h cells slots) (hx : p.tables.exec = Jvm.exec) (hZ : Z.Warmed39 s.vm) {own : String} {index : Nat} (hown : s.vm.findClass own = some m.cls) (w1 : (Cond.classLink own index C).before a0 Z = true) (w2 : (Cond.arrayOver (.object C)).before a0 Z = true)
    {g : JFrame} (hg : g.method = m) (hd : decode c.code g.pc = .ok (.anewarray index, 3)) {rest : List Value} (hs : g.stack = .int n :: rest) (hn : ¬ n < 0) (cap : Nat) (hcap : n.toNatClampNeg ≤ cap) (hb : cap * 8 ≤ 536870912) (hc : cells + 1 ≤ R.cells) (hl : slots + cap ≤ R.slots)
    (kk : ∀ T' h' a, a = h.size → own_At p l e R s m args below meth c n0 T' h' (cells + 1) (slots + cap) → Ext h h' → own_ArrR Z h' a C n → own_Go p.tables e below G (T'.setTop { g with pc := g.pc + 3, stack := .ref a :: rest })) : own_Go p.tables e below G (T.setTop g) := by
  obtain ⟨locs, X, eT, N⟩ := A
  obtain ⟨T1, h1, k1, X1, e1, E1, A1, O1, st⟩ := newR X hx hZ hown w1 w2 eT hg hd hs hn hcap hb hc hl
  exact own_go st (kk T1 h1 h.size rfl ⟨_, X1, e1, N⟩ E1 ⟨_, A1, sz_new _ _ _, hn, O1⟩)
theorem own_stR (A : own_At p l e R s m args below meth c n0 T h cells slots) (hx : p.tables.exec = Jvm.exec) (hZ : Z.Warmed39 s.vm) (F : own_ArrR Z h a C n) (hj : ¬ j < 0 ∧ j < n) (I : Ins Z h b C true) (q : n0 ≤ a) {g : JFrame} (hg : g.method = m) {rest : List Value} (hs : g.stack = .ref b :: .int j :: .ref a :: rest) (hd : decode c.code g.pc = .ok (.aastore, 1))
    (k : ∀ T' h', own_At p l e R s m args below meth c n0 T' h' cells slots → Wr h h' a j.toNatClampNeg (.ref b) → own_ArrR Z h' a C n → own_Go p.tables e below G (T'.setTop { g with pc := g.pc + 1, stack := rest })) : own_Go p.tables e below G (T.setTop g) := by
  obtain ⟨locs, X, eT, N⟩ := A
  obtain ⟨c1, A1, S1, M1, O1⟩ := id F
  obtain ⟨T1, h1, X1, e1, W1, st⟩ := stR X hx hZ eT A1 (inb_of S1 hj) rfl (Sto.of A1 O1 I) hg hs hd
  exact own_go st (k T1 h1 ⟨_, X1, e1, Fr.snoc X1 N q⟩ W1 ⟨_, A1.same W1, by rw [sz_set]; exact S1, M1, O1⟩)
theorem own_lenR (A : own_At p l e R s m args below meth c n0 T h cells slots) (hx : p.tables.exec = Jvm.exec) (hZ : Z.Warmed39 s.vm) (F : own_ArrR Z h a C n) {g : JFrame} (hg : g.method = m) {rest : List Value} (hs : g.stack = .ref a :: rest) (hd : decode c.code g.pc = .ok (.arraylength, 1))
    (k : own_Go p.tables e below G (T.setTop { g with pc := g.pc + 1, stack := .int n :: rest })) : own_Go p.tables e below G (T.setTop g) := by
  obtain ⟨locs, X, eT, N⟩ := A
  obtain ⟨c1, A1, S1, M1, H1⟩ := F
  rw [← len_of S1 M1] at k
  exact own_go (fun t k => X.arraylength hx (by rw [eT]; exact A1.1) (State.isArrayOf_alike hZ.alike A1.2.1) hg hs hd t k) k
theorem own_cast (A : own_At p l e R s m args below meth c n0 T h cells slots) (hx : p.tables.exec = Jvm.exec) (hZ : Z.Warmed39 s.vm) {own K : String} {index : Nat} (hown : s.vm.findClass own = some m.cls) (w : (Cond.classLink own index K).before a0 Z = true) (F : Ins Z h a K true)
    {g : JFrame} (hg : g.method = m) {rest : List Value} (hs : g.stack = .ref a :: rest) (hd : decode c.code g.pc = .ok (.checkcast index, 3))
    (k : ∀ T', own_At p l e R s m args below meth c n0 T' h cells slots → own_Go p.tables e below G (T'.setTop { g with pc := g.pc + 3 })) : own_Go p.tables e below G (T.setTop g) := by
  obtain ⟨locs, X, eT, N⟩ := A
  obtain ⟨T1, X1, e1, st⟩ := castY X hx hZ hown w eT F hg hs hd
  exact own_go st (k T1 ⟨_, X1, e1, N⟩)
theorem own_cloneB (A : own_At p l e R s m args below meth c n0 T h cells slots) (hx : p.tables.exec = Jvm.exec) (hZ : Z.Warmed39 s.vm) {own : String} {index : Nat} (hown : s.vm.findClass own = some m.cls)
    (w1 : (Cond.methodLink own index ⟨"[B", "clone", "()Ljava/lang/Object;"⟩).before a0 Z = true) (w2 : (Cond.sameMethod "[B" "java/lang/Object" "clone" "()Ljava/lang/Object;").before a0 Z = true) (w3 : (Cond.native ⟨"java/lang/Object", "clone", "()Ljava/lang/Object;"⟩).before a0 Z = true)
    (w4 : (Cond.instanceMethod ⟨"java/lang/Object", "clone", "()Ljava/lang/Object;"⟩).before a0 Z = true) (w5 : (Cond.selects "[B" ⟨"[B", "clone", "()Ljava/lang/Object;"⟩ ⟨"java/lang/Object", "clone", "()Ljava/lang/Object;"⟩).before a0 Z = true) (w6 : (Cond.castable "[B" "java/lang/Cloneable").before a0 Z = true)
    (F : own_Arr Z h a .byte n f) (E : Exa Z h a "[B") (hfit : ∀ j, ¬ j < 0 → j < n → fits .byte (.int (f j)) = true) {g : JFrame} (hg : g.method = m) (hsize : g.locals.size = c.maxLocals) {rest : List Value} (hs : g.stack = .ref a :: rest) (hd : decode c.code g.pc = .ok (.invokevirtual index, 3))
    (hf : 1 ≤ R.frames) (W : Nat) (hW : 2 * g.monitorRoom + (rest.map fun v => v.category).sum ≤ W) (hl : W + 14 ≤ R.locals) (cap : Nat) (hcap : n.toNatClampNeg ≤ cap) (hc : cells + 1 ≤ R.cells) (hsl : slots + cap ≤ R.slots)
    (k : ∀ T' h' b, b = h.size → own_At p l e R s m args below meth c n0 T' h' (cells + 1) (slots + cap) → Ext h h' → own_Arr Z h' b .byte n f → Exa Z h' b "[B" → own_Go p.tables e below G (T'.setTop { g with pc := g.pc + 3, stack := .ref b :: rest })) : own_Go p.tables e below G (T.setTop g) := by
  obtain ⟨locs, X, eT, N⟩ := A
  obtain ⟨c1, A1, S1, M1, H1⟩ := F
  have hn31 : n.toNatClampNeg < 2 ^ 31 := by rw [Int32.toNatClampNeg]; have := rng32 n; omega
  have FC : FitC Z c1 := fitC_of A1 fun i hi v hv => by
    rw [S1] at hi
    have e1 : (Int32.ofNat i).toNatClampNeg = i := own_toN (by omega)
    have e2 : Int32.ofNat n.toNatClampNeg = n := own_ofN M1
    have q := H1 (Int32.ofNat i) (own_nn (by omega)) (by rw [← e2]; exact (own_nlt (by omega) hn31).mpr hi)
    rw [e1] at q
    cases q.symm.trans hv
    exact hfit _ (own_nn (by omega)) (by rw [← e2]; exact (own_nlt (by omega) hn31).mpr hi)
  obtain ⟨T1, h1, X1, e1, E1, B1, Y1, st⟩ := cloneA X hx hZ hown w1 w2 w3 w4 w5 w6 eT A1 E FC hg hsize hs hd hf hW hl (cap := cap) (by rw [S1]; exact hcap) hc hsl
  exact own_go st (k T1 h1 h.size rfl ⟨_, X1, e1, N⟩ E1 ⟨_, B1, S1, M1, H1⟩ Y1)
theorem own_cpB (A : own_At p l e R s m args below meth c n0 T h cells slots) (hx : p.tables.exec = Jvm.exec) (hZ : Z.Warmed39 s.vm) {own : String} {index : Nat} (hown : s.vm.findClass own = some m.cls)
    (w1 : (Cond.methodLink own index Jvm.Stand.acN).before a0 Z = true) (w2 : (Cond.native Jvm.Stand.acN).before a0 Z = true) (w3 : (Cond.static Jvm.Stand.acN).before a0 Z = true) (w4 : (Cond.initialized "java/lang/System").before a0 Z = true)
    {na nb : Nat} {fa fb : Int32 → Int32} {sp dp nn : Int32} (Va : own_Arr Z h a .byte (Int32.ofNat na) fa) (Vb : own_Arr Z h b .byte (Int32.ofNat nb) fb) (ha : na < 2 ^ 31) (hb : nb < 2 ^ 31) (fa' : ∀ k, k < na → fits .byte (.int (fa (Int32.ofNat k))) = true) (fb' : ∀ k, k < nb → fits .byte (.int (fb (Int32.ofNat k))) = true)
    (h1 : ¬ sp < 0) (h2 : ¬ dp < 0) (h3 : ¬ nn < 0) (h4 : sp.toNatClampNeg + nn.toNatClampNeg ≤ na) (h5 : dp.toNatClampNeg + nn.toNatClampNeg ≤ nb) (ge : n0 ≤ b)
    {g : JFrame} (hg : g.method = m) (hsize : g.locals.size = c.maxLocals) {rest : List Value} (hs : g.stack = .int nn :: .int dp :: .ref b :: .int sp :: .ref a :: rest) (hd : decode c.code g.pc = .ok (.invokestatic index, 3))
    (hf : 1 ≤ R.frames) (W : Nat) (hW : 2 * g.monitorRoom + (rest.map fun v => v.category).sum ≤ W) (hlo : W + (nativeFrameWords "java/lang/System" "arraycopy" 5 + 11) ≤ R.locals)
    (k : ∀ T' h', own_At p l e R s m args below meth c n0 T' h' cells slots → Keep h h' [b] → own_Go p.tables e below G (T'.setTop { g with pc := g.pc + 3, stack := rest })) : own_Go p.tables e below G (T.setTop g) := by
  obtain ⟨locs, X, eT, N⟩ := A
  obtain ⟨ka, A1⟩ := Va.arv ha fa'
  obtain ⟨kb, B1⟩ := Vb.arv hb fb'
  obtain ⟨T1, h1', L, X1, e1, N1, K1, -, st⟩ := cpA X hx hZ hown w1 w2 w3 w4 eT A1 B1 (Or.inl ⟨rfl, rfl⟩) h1 h2 h3 (by rw [own_toN ha]; exact h4) (by rw [own_toN hb]; exact h5) rfl (by rw [List.length_map, own_lst_len]; exact h5) N ge hg hsize hs hd hf hW hlo
  exact own_go st (k T1 h1' ⟨_, X1, e1, N1⟩ K1)
end OwnRef
section OwnLit
open Jvm.Free.SB Jvm.Free.SBG
variable {p : Program} {l : Launch} {e : Env} {R : Room} {s : State} {m : MethodId} {args : Array Value} {below : List Frame} {meth : Method} {c : Code} {T : State} {cells slots : Nat} {Z : State} {a0 : Array Value} {h : Heap} {n0 : Nat} {G : State → Outcome → Prop} {vm0 : Vm} {k0 : Nat} {Ts : List String}
/-- what a String of the intern table is, said of the case's start Z: with the class of its bytes -/
theorem own_slZ {W : State} {lo hi : Nat} {a : Addr} {units : Array UInt16} {xs : List Int32} {z : Int32} (hal : Z.vm.Alike W.vm) (hin : SlIn lo hi W a units) (hlat : units.all (· < 256) = true) (hu : units.toList.map (fun u => Jvm.Lit.byteI u) = xs) (hz : ¬ z < 0) (hl : z.toNatClampNeg = xs.length) :
    ∃ b, Exa Z W.heap a "java/lang/String" ∧ Fld Z W.heap a "java/lang/String" "coder" "B" (.int 0) ∧ Fld Z W.heap a "java/lang/String" "value" "[B" (.ref b) ∧ Exa Z W.heap b "[B" ∧ own_Arr Z W.heap b .byte z (fun j => xs.getD j.toNatClampNeg 0) := by
  obtain ⟨q, cS, rfl, ⟨⟨s1, s2, s3, ⟨cv, kv, iv, s4, s4'⟩, ⟨cc, kc, ic, s5, s5'⟩, s6, s7, s8, s9, s10, s11, s12, -, -, -, -⟩, hfS, hcS⟩, ⟨kS, k1, k2, k3⟩, hB, hbyt, -⟩ := hin
  obtain ⟨kv', z4⟩ := ff_back hal s4
  obtain ⟨kc', z5⟩ := ff_back hal s5
  have fS : Z.vm.findClass "java/lang/String" = some q.sC.cls := by rw [← hal.findClass, hcS]; exact hfS
  have fB : Z.vm.findClass "[B" = some q.SA.cls := by rw [← hal.findClass]; exact hB
  obtain ⟨kz, hkz, -⟩ := Vm.findClass_spec fS
  obtain ⟨kz', hkz', ekz⟩ := hal.2.2 _ _ hkz
  obtain ⟨kb, hkb, -⟩ := Vm.findClass_spec fB
  obtain ⟨kb', hkb', ekb⟩ := hal.2.2 _ _ hkb
  obtain ⟨ns, k9, hk9, comp, hki⟩ := s11
  cases hk9.symm.trans hkb'
  have hk' : W.vm.classes[q.sC.cls]? = some kS := by rw [hcS]; exact k1
  cases hk'.symm.trans hkz'
  have kkd : kb.kind = .array comp .byte := by rw [ekb] at hki; exact hki
  have hsl : q.SA.slots = units.map fun u => Value.int (Jvm.Lit.byteI u) := by rw [hbyt, SBG.stringBytes_lat hlat]; rfl
  have hst : q.SA.vm.isStatics = false := by
    cases hv : q.SA.vm <;> first | rfl | exact absurd hv (ns _)
  have hsz : q.SA.slots.size = z.toNatClampNeg := by rw [hl, ← hu, hsl]; simp
  refine ⟨q.sd, ⟨q.sC, kz, s1, fS, hkz, s3, fun _ => by rw [k3, ekz]⟩, ⟨q.sC, cc, kc', ic, q.fSC, s1, z5, s7, s2, s3, by rw [← hal.assignable]; exact s5', s9⟩, ⟨q.sC, cv, kv', iv, q.fSV, s1, z4, s6, s2, s3, by rw [← hal.assignable]; exact s4', s8⟩,
    ⟨q.SA, kb, s10, fB, hkb, hst, fun o => by rw [kkd] at o; cases o⟩, q.SA, ⟨s10, ⟨ns, kb, hkb, comp, kkd⟩, s12⟩, hsz, hz, fun j h0 h1 => ?_⟩
  have hj : j.toNatClampNeg < q.SA.slots.size := Nat.lt_of_not_le fun w => inb_of hsz ⟨h0, h1⟩ (Or.inr w)
  have hju : j.toNatClampNeg < units.size := by rw [hsl, Array.size_map] at hj; exact hj
  show _ = some (Value.int (xs.getD j.toNatClampNeg 0))
  rw [hsl, ← hu]
  simp [hju, List.getD_eq_getElem?_getD]
theorem own_ldcB (A : own_At p l e R (s.setVm vm0) m args below meth c n0 T h cells slots) (hx : p.tables.exec = Jvm.exec) (hZ : Z.Warmed39 (s.setVm vm0).vm) {own text : String} {index : Nat} (hown : (s.setVm vm0).vm.findClass own = some m.cls) (w : (Cond.stringLink own index text).before a0 Z = true) (wS : ∀ a ∈ Bundle.stringAtoms, a.before a0 Z = true)
    (hS : s.Since vm0 k0) (hk : k0 ≤ h.size) (hn0 : s.heap.size ≤ n0) (hkeep : ∀ (b : Addr) (cl : Cell), Z.heap[b]? = some cl → s.heap[b]? = some cl) (I : IB Z vm0 Ts) (hnot : text ∉ Ts) (hh : Jvm.Lit.constHeld Z own index) (hcw : Jvm.Lit.compactW.before a0 Z = true)
    {xs : List Int32} {z : Int32} (ht : (∀ c ∈ text.toList, c.toNat < 256) ∧ text.toList.map (fun c => Jvm.Lit.byteI c.toNat.toUInt16) = xs) (hz : ¬ z < 0) (hl : z.toNatClampNeg = xs.length)
    {g : JFrame} (hg : g.method = m) (hd : decode c.code g.pc = .ok (.ldc index, 2)) (n : Nat) (hn : 4 * text.toList.length ≤ n) (hbig : n ≤ 536870912) (hc : cells + 2 ≤ R.cells) (hl' : slots + (n + 4) ≤ R.slots)
    (k : ∀ T' h' a b vm1 k1, own_At p l e R (s.setVm vm1) m args below meth c n0 T' h' (cells + 2) (slots + (n + 4)) → Ext h h' → s.Since vm1 k1 → k1 ≤ h'.size → Z.Warmed39 (s.setVm vm1).vm → (s.setVm vm1).vm.findClass own = some m.cls → IB Z vm1 (text :: Ts) →
      Exa Z h' a "java/lang/String" → Fld Z h' a "java/lang/String" "coder" "B" (.int 0) → Fld Z h' a "java/lang/String" "value" "[B" (.ref b) → Exa Z h' b "[B" → own_Arr Z h' b .byte z (fun j => xs.getD j.toNatClampNeg 0) → own_Go p.tables e below G (T'.setTop { g with pc := g.pc + 2, stack := .ref a :: g.stack })) : own_Go p.tables e below G (T.setTop g) := by
  obtain ⟨locs, X, eT, N⟩ := A
  have wi : (Cond.instantiable "java/lang/String" 4).before a0 Z = true := wS _ (by simp [Bundle.stringAtoms, Bundle.sN])
  have wa : (Cond.arrayClass .byte).before a0 Z = true := wS _ (by simp [Bundle.stringAtoms])
  have hH : ConstHeldL (s.setVm vm0) own index := heldCarry hZ w I hnot hkeep (heldStart hh w ht.1 hcw wa wi)
  have N' : Fr s.heap.size locs := fun y hy => Nat.le_trans hn0 (N y hy)
  obtain ⟨a, T', X', hS', -, hb, -, hint, ⟨units, htext, hin⟩, st⟩ := X.ldcColdF (oldF X N') hx (own := own) hown (mvS hZ w) (fun d hd => by
    have q := wS d hd
    simp only [Bundle.stringAtoms, List.mem_cons, List.not_mem_nil, or_false] at hd
    rcases hd with rfl | rfl | rfl | rfl | rfl | rfl | rfl
    · exact mv (s := s.setVm vm0) hZ q
    · exact mv (s := s.setVm vm0) hZ q
    · exact mvA (s := s.setVm vm0) hZ q
    · exact mv (s := s.setVm vm0) hZ q
    · exact mv (s := s.setVm vm0) hZ q
    · exact mv (s := s.setVm vm0) hZ q
    · exact mv (s := s.setVm vm0) hZ q) hH (fun units hu => Jvm.ClassFile.lat_of_text hu ht.1) hg hd hn hbig hc hl'
  subst eT
  have E := ext_of hb
  have hW : Z.Warmed39 T'.vm := State.Warmed39.trans (t := s.setVm vm0) hZ hS'.1
  obtain ⟨b, r1, r2, r3, r4, r5⟩ := own_slZ (xs := xs) (z := z) hW.alike hin (Jvm.ClassFile.lat_of_text htext ht.1) (by rw [← ht.2, Jvm.ClassFile.units_of_text htext ht.1, List.map_map]; rfl) hz hl
  have hTi : T.vm.interned = vm0.interned := X.warmed.interned_eq
  exact own_go st (k T' T'.heap a b T'.vm _ ⟨_, X', rfl, N⟩ E (hS.trans hS' (Nat.le_trans hk E.1)) (Nat.le_refl _) hW (by rw [show (s.setVm T'.vm).vm = T'.vm from rfl, hS'.1.alike.findClass]; exact hown) (I.step (by rw [← hTi]; exact hint)) r1 r2 r3 r4 r5)
end OwnLit
section OwnHand
variable {p : Program} {l : Launch} {e : Env} {R : Room} {s : State} {m : MethodId} {args : Array Value} {below : List Frame} {meth : Method} {c : Code} {T : State} {cells slots : Nat} {Z : State} {a0 : Array Value} {h : Heap} {n0 : Nat} {G : State → Outcome → Prop} {Q : Option Value → Heap → Prop}
/-- own_Met, of a body with an exception table whose walk throws nothing -/
def own_MetH (l : Launch) (Z : State) (n0 : Nat) (y : MethodName) (bytes : ByteArray) (maxL : Nat) (ret : Option FieldType) (hs : List (Nat × Nat × Nat × Nat)) (rm : Room) (as' : Array Value) (h0 : Heap) (Q : Option Value → Heap → Prop) : Prop :=
  ∀ ws, MetFree l y (head1 (Cond.codeWith y bytes maxL ret hs :: ws) rm) (fun a U => a = as' ∧ Z.Warmed39 U.vm ∧ U.heap = h0) (fun _ _ _ _ _ => True) (fun _ U o U' => ∃ v L, o = .returned v ∧ (Q v U'.heap ∧ Fr n0 L) ∧ FrameEnd U o U' L rm.cells rm.slots)
theorem own_metH {y : MethodName} {bytes : ByteArray} {maxL : Nat} {ret : Option FieldType} {hs : List (Nat × Nat × Nat × Nat)} {rm : Room} {as' : Array Value} {h0 : Heap} (hp : plainFor y = true)
    (body : ∀ (p : Program) (e : Env) (s : State) (m : MethodId) (below : List Frame) (meth : Method) (c : Code) (T : State), p.tables.exec = Jvm.exec → c.code = bytes → c.maxLocals = maxL → s.vm.findClass y.cls = some m.cls → meth.name = y.name → meth.sig.returnType = ret → meth.locks = false → Z.Warmed39 s.vm →
      own_At p l e rm s m as' below meth c n0 T h0 0 0 → own_Go p.tables e below (own_End n0 s rm.cells rm.slots Q) (T.setTop (entryFrame m as' maxL))) : own_MetH l Z n0 y bytes maxL ret hs rm as' h0 Q := by
  intro ws
  refine MetFree.of_bodySF hp hisWith ?_
  intro p e s m args below meth c s₁ Bd hml0 hP hK
  obtain ⟨rfl, hZ, hh⟩ := hP
  exact body p e s m below meth c s₁ Bd.exec Bd.bytes hml0 (findClass_of_methodNamed Bd.named) (name_of_methodNamed Bd.named Bd.method).1 Bd.returns Bd.notSynchronized hZ ⟨[], Stand.of_body Bd, by rw [← hh, Bd.state]; rfl, Fr.nil n0⟩
theorem own_callIH (A : own_At p l e R s m args below meth c n0 T h cells slots) (hx : p.tables.exec = Jvm.exec) (hZ : Z.Warmed39 s.vm) {own : String} {index : Nat} {y : MethodName} (hy1 : y.name = "<init>") {bytes : ByteArray} {maxL : Nat} {hs' : List (Nat × Nat × Nat × Nat)} (hown : s.vm.findClass own = some m.cls)
    (w1 : (Cond.methodLink own index y).before a0 Z = true) (w4 : (Cond.instanceMethod y).before a0 Z = true) (w5 : (Cond.initialized y.cls).before a0 Z = true) (w6 : (Cond.codeWith y bytes maxL none hs').before a0 Z = true)
    (hy : y.cls ≠ "java/lang/invoke/MethodHandle" ∧ y.cls ≠ "java/lang/invoke/VarHandle")
    {rm : Room} {b : Addr} {argsL rest : List Value} (hM : own_MetH l Z n0 y bytes maxL none hs' rm (.ref b :: argsL).toArray h Q) (W : Nat) (hfr : rm.frames + 1 ≤ R.frames) (hlo : W + (maxL + 11) + rm.locals ≤ R.locals) {g : JFrame} (hg : g.method = m) (hsize : g.locals.size = c.maxLocals)
    (hlen : ∀ sig, parseMethodDescriptor y.desc = some sig → argsL.length = sig.parameters.length) (hs : g.stack = argsL.reverse ++ .ref b :: rest) (hW : 2 * g.monitorRoom + (rest.map fun v => v.category).sum ≤ W) (hd : decode c.code g.pc = .ok (.invokespecial index, 3))
    (hc : cells + rm.cells ≤ R.cells) (hl : slots + rm.slots ≤ R.slots)
    (k : ∀ v T' h', own_At p l e R s m args below meth c n0 T' h' (cells + rm.cells) (slots + rm.slots) → Q v h' → own_Go p.tables e below G (T'.setTop { g with pc := g.pc + 3, stack := v.toList ++ rest })) : own_Go p.tables e below G (T.setTop g) := by
  obtain ⟨locs, X, eT, N⟩ := A
  obtain ⟨v, _, ⟨T1, L1, k1, s1⟩, -, X1, ⟨Lc, ⟨hQ, N1⟩, l1, y1, z1⟩, st⟩ := X.specialBackH hx (y := y) hy1 hown (mvT hZ w1) (mvT hZ w4) (mvT hZ w6) hy (backOfWith (Q := fun v h L => Q v h ∧ Fr n0 L) (W := W) (hM []) hZ w6 w5 hfr hlo) hg hsize (Steps.refl _) (a := b) (argsL := argsL) (rest := rest) hlen hs hW hd (fun _ _ => ⟨rfl, eT, hc, hl⟩)
  dsimp only [Pt.U, Pt.locs, Pt.cells, Pt.slots] at X1 l1 y1 z1 st hQ
  subst l1 y1 z1
  exact own_go (fun t k => st.trans k) (k v T1 T1.heap ⟨_, X1, rfl, N.app N1⟩ hQ)
end OwnHand
section OwnPriv
variable {p : Program} {l : Launch} {e : Env} {R : Room} {s : State} {m : MethodId} {args : Array Value} {below : List Frame} {meth : Method} {c : Code} {T : State} {cells slots : Nat} {Z : State} {a0 : Array Value} {h : Heap} {n0 : Nat} {G : State → Outcome → Prop} {Q : Option Value → Heap → Prop}
/-- invokevirtual of a private method; w3: any word 'selects' that lands in its class (so the class is no interface) -/
theorem own_callP (A : own_At p l e R s m args below meth c n0 T h cells slots) (hx : p.tables.exec = Jvm.exec) (hZ : Z.Warmed39 s.vm) {own C D : String} {index : Nat} {y x' y' : MethodName} {bytes : ByteArray} {maxL : Nat} {ret : Option FieldType} (hown : s.vm.findClass own = some m.cls)
    (w1 : (Cond.methodLink own index y).before a0 Z = true) (w2 : (Cond.instanceMethod y).before a0 Z = true) (wp : (Cond.privateMethod y).before a0 Z = true) (w3 : (Cond.selects D x' y').before a0 Z = true) (hcls : y'.cls = y.cls) (w5 : (Cond.initialized y.cls).before a0 Z = true) (w6 : (Cond.code y bytes maxL ret).before a0 Z = true)
    (hy : y.cls ≠ "java/lang/invoke/MethodHandle" ∧ y.cls ≠ "java/lang/invoke/VarHandle")
    {rm : Room} {b : Addr} {argsL rest : List Value} (E : Exa Z h b C) (hM : own_Met l Z n0 y bytes maxL ret rm (.ref b :: argsL).toArray h Q) (W : Nat) (hfr : rm.frames + 1 ≤ R.frames) (hlo : W + (maxL + 11) + rm.locals ≤ R.locals) {g : JFrame} (hg : g.method = m) (hsize : g.locals.size = c.maxLocals)
    (hlen : ∀ sig, parseMethodDescriptor y.desc = some sig → argsL.length = sig.parameters.length) (hs : g.stack = argsL.reverse ++ .ref b :: rest) (hW : 2 * g.monitorRoom + (rest.map fun v => v.category).sum ≤ W) (hd : decode c.code g.pc = .ok (.invokevirtual index, 3))
    (hc : cells + rm.cells ≤ R.cells) (hl : slots + rm.slots ≤ R.slots)
    (k : ∀ v T' h', own_At p l e R s m args below meth c n0 T' h' (cells + rm.cells) (slots + rm.slots) → Q v h' → own_Go p.tables e below G (T'.setTop { g with pc := g.pc + 3, stack := v.toList ++ rest })) : own_Go p.tables e below G (T.setTop g) := by
  obtain ⟨locs, X, eT, N⟩ := A
  obtain ⟨cell, kc, h1, -, -, h4, -⟩ := E
  have hp : s.PrivateAt y := Cond.privateMethod_at (mvP (args := args) hZ wp)
  have hsel : (Cond.selects y.cls y y).before args s = true := by
    obtain ⟨c2, r2, m2, -, -, q3, -, kP, hkP, hkPi⟩ := Cond.selects_spec (mvT (args := args) hZ w3)
    exact selects_self_of_private (c := m2.cls) (k := kP) (by rw [← hcls]; exact findClass_of_methodNamed q3) hkP hkPi hp (mvT hZ w2) hy
  obtain ⟨v, _, ⟨T1, L1, k1, s1⟩, -, X1, ⟨Lc, ⟨hQ, N1⟩, l1, y1, z1⟩, st⟩ := X.privateBack hx (y := y) hown (mvT hZ w1) (mvT hZ w2) hsel hp (mvT hZ w6) hy (backOf (Q := fun v h L => Q v h ∧ Fr n0 L) (W := W) (hM []) hZ w6 w5 hfr hlo) hg hsize (Steps.refl _) (a := b) (cell := cell) (by rw [eT]; exact h1) (fun q e => by rw [e] at h4; cases h4) (argsL := argsL) (rest := rest) hlen hs hW hd (fun _ _ => ⟨rfl, eT, hc, hl⟩)
  dsimp only [Pt.U, Pt.locs, Pt.cells, Pt.slots] at X1 l1 y1 z1 st hQ
  subst l1 y1 z1
  exact own_go (fun t k => st.trans k) (k v T1 T1.heap ⟨_, X1, rfl, N.app N1⟩ hQ)
end OwnPriv
theorem own_fitL (k : Nat) (hk : k < 1) : fits .byte (.int ((fun j => ([99] : List Int32).getD j.toNatClampNeg 0) (Int32.ofNat k))) = true := by
  rcases (by omega : k = 0) with rfl <;> decide +kernel
theorem own_fitJ (j : Int32) (h0 : ¬ j < 0) (h1 : j < (1 : Int32)) : fits .byte (.int ((fun j => ([99] : List Int32).getD j.toNatClampNeg 0) j)) = true := by
  have e := own_ofN h0
  rw [← e] at h1 ⊢
  exact own_fitL _ ((own_nlt (j := 1) (by rw [Int32.toNatClampNeg]; have := rng32 j; omega) (by decide)).mp h1)
theorem own_fit0 (m k : Nat) (hk : k < m) : fits .byte (.int ((fun _ => (0 : Int32)) (Int32.ofNat k))) = true := rfl
theorem ef_7 (m : MethodId) (r0 : Addr) : entryFrame m #[(.ref r0)] 1 = mkF m 0 #[.val (.ref r0)] [] := by first | (simp [entryFrame, mkF, argsToLocals, Value.category]; done) | rfl
theorem pn_7 : plainName "java/lang/String" = true := by first | (simp [plainName, overriddenIn]; done) | decide +kernel
theorem d7_0 : decode jdk_42_method_152_code 0 = .ok (.getstatic 38, 3) := by decide +kernel
theorem d7_3 : decode jdk_42_method_152_code 3 = .ok (.ifCond .eq 10, 3) := by decide +kernel
theorem d7_6 : decode jdk_42_method_152_code 6 = .ok (.aload_n 0, 1) := by decide +kernel
theorem d7_7 : decode jdk_42_method_152_code 7 = .ok (.getfield 15, 3) := by decide +kernel
theorem d7_10 : decode jdk_42_method_152_code 10 = .ok (.goto 4, 3) := by decide +kernel
theorem d7_14 : decode jdk_42_method_152_code 14 = .ok (.ireturn, 1) := by decide +kernel
set_option maxRecDepth 65536 in
set_option maxHeartbeats 40000000 in
theorem rm7 (l : Launch) (Z : State) (a0 : Array Value) (hw : ∀ d ∈ tables_1, d.before a0 Z = true) (r0 : Addr) (z_C : Int32) (h0 : Heap) (n0 : Nat) (S_C0 : Sta Z h0 "java/lang/String" "COMPACT_STRINGS" "Z" (.int z_C)) (hz : ¬ z_C = 0) (Fc : Fld Z h0 r0 "java/lang/String" "coder" "B" (.int (0 : Int32))) :
    own_Met l Z n0 (⟨"java/lang/String", "coder", "()B"⟩ : MethodName) jdk_42_method_152_code 1 (some .byte) ({ frames := 0, cells := 0, slots := 0, locals := 0 } : Room) #[(.ref r0)] h0 (fun v h => v = some (.int 0) ∧ h0 = h) := by
  refine own_met (plainFor_of_name pn_7) ?_
  intro p e s m below meth c T0 hx hby hml hown hnm hret hlk hZ A0
  rw [ef_7]
  show own_Go _ _ _ _ (T0.setTop (mkF m 0 #[.val (.ref r0)] []))
  refine own_getS A0 hx hZ hown (host := "") (Or.inl (hw _ (List.mem_of_getElem? (i := 42) rfl))) Via.refl S_C0 rfl (hb hby d7_0) (fun T1 A2 => ?_)
  show own_Go _ _ _ _ (T1.setTop (mkF m 3 #[.val (.ref r0)] [(.int z_C)]))
  have hc3 : ¬ (z_C = (0 : Int32)) := hz
  refine own_go (fun t_ k_ => XS.ifNo A2.here hx rfl (hb hby d7_3) rfl ((if0 _ _).trans (feq hc3).1) k_) ?_
  show own_Go _ _ _ _ (T1.setTop (mkF m 6 #[.val (.ref r0)] []))
  refine own_go (fun t_ k_ => XS.aloadN A2.here hx rfl (hb hby d7_6) rfl rfl k_) ?_
  show own_Go _ _ _ _ (T1.setTop (mkF m 7 #[.val (.ref r0)] [(.ref r0)]))
  refine own_getF A2 hx hZ hown (host := "") (Or.inl (hw _ (List.mem_of_getElem? (i := 43) rfl))) Via.refl Fc rfl rfl (hb hby d7_7) (fun T4 A5 => ?_)
  show own_Go _ _ _ _ (T4.setTop (mkF m 10 #[.val (.ref r0)] [(.int (0 : Int32))]))
  refine own_go (fun t_ k_ => XS.goto A5.here hx rfl (pc0 := 10) (pc' := 14) rfl (hb hby d7_10) (by decide) (by decide) k_) ?_
  show own_Go _ _ _ _ (T4.setTop (mkF m 14 #[.val (.ref r0)] [(.int (0 : Int32))]))
  refine own_retN A5 hx (t := .byte) hret (by simp) hlk (by decide) (by decide) (hb hby d7_14) ?_
  exact ⟨rfl, rfl⟩
theorem ef_11 (m : MethodId) (r0 : Addr) (y1 : Int32) (y2 : Int32) : entryFrame m #[(.ref r0), (.int y1), (.int y2)] 5 = mkF m 0 #[.val (.ref r0), .val (.int y1), .val (.int y2), .unset, .unset] [] := by first | (simp [entryFrame, mkF, argsToLocals, Value.category]; done) | rfl
theorem pn_11 : plainName "java/lang/StringCoding" = true := by first | (simp [plainName, overriddenIn]; done) | decide +kernel
theorem d11_0 : decode jdk_123_method_3_code 0 = .ok (.iload_n 1, 1) := by decide +kernel
theorem d11_1 : decode jdk_123_method_3_code 1 = .ok (.iload_n 2, 1) := by decide +kernel
theorem d11_2 : decode jdk_123_method_3_code 2 = .ok (.iadd, 1) := by decide +kernel
theorem d11_3 : decode jdk_123_method_3_code 3 = .ok (.istore_n 3, 1) := by decide +kernel
theorem d11_4 : decode jdk_123_method_3_code 4 = .ok (.iload_n 1, 1) := by decide +kernel
theorem d11_5 : decode jdk_123_method_3_code 5 = .ok (.istore 4, 2) := by decide +kernel
theorem d11_7 : decode jdk_123_method_3_code 7 = .ok (.iload 4, 2) := by decide +kernel
theorem d11_9 : decode jdk_123_method_3_code 9 = .ok (.iload_n 3, 1) := by decide +kernel
theorem d11_10 : decode jdk_123_method_3_code 10 = .ok (.if_icmp .ge 21, 3) := by decide +kernel
theorem d11_13 : decode jdk_123_method_3_code 13 = .ok (.aload_n 0, 1) := by decide +kernel
theorem d11_14 : decode jdk_123_method_3_code 14 = .ok (.iload 4, 2) := by decide +kernel
theorem d11_16 : decode jdk_123_method_3_code 16 = .ok (.baload, 1) := by decide +kernel
theorem d11_17 : decode jdk_123_method_3_code 17 = .ok (.ifCond .ge 8, 3) := by decide +kernel
theorem d11_25 : decode jdk_123_method_3_code 25 = .ok (.iinc 4 1, 3) := by decide +kernel
theorem d11_28 : decode jdk_123_method_3_code 28 = .ok (.goto (-21), 3) := by decide +kernel
theorem d11_31 : decode jdk_123_method_3_code 31 = .ok (.iload_n 2, 1) := by decide +kernel
theorem d11_32 : decode jdk_123_method_3_code 32 = .ok (.ireturn, 1) := by decide +kernel
set_option maxRecDepth 65536 in
set_option maxHeartbeats 40000000 in
theorem rm11_0_1 (l : Launch) (Z : State) (a0 : Array Value) (hw : ∀ d ∈ tables_1, d.before a0 Z = true) (r0 : Addr) (h0 : Heap) (n0 : Nat) (V0 : own_Arr Z h0 r0 .byte (1 : Int32) (fun j => ([99] : List Int32).getD j.toNatClampNeg 0)) :
    own_Met l Z n0 (⟨"java/lang/StringCoding", "countPositives", "([BII)I"⟩ : MethodName) jdk_123_method_3_code 5 (some .int) ({ frames := 0, cells := 0, slots := 0, locals := 0 } : Room) #[(.ref r0), (.int (0 : Int32)), (.int (1 : Int32))] h0 (fun v h => v = some (.int 1) ∧ h0 = h) := by
  refine own_met (plainFor_of_name pn_11) ?_
  intro p e s m below meth c T0 hx hby hml hown hnm hret hlk hZ A0
  rw [ef_11]
  show own_Go _ _ _ _ (T0.setTop (mkF m 0 #[.val (.ref r0), .val (.int (0 : Int32)), .val (.int (1 : Int32)), .unset, .unset] []))
  refine own_go (fun t_ k_ => XS.iloadN A0.here hx rfl (hb hby d11_0) rfl k_) ?_
  show own_Go _ _ _ _ (T0.setTop (mkF m 1 #[.val (.ref r0), .val (.int (0 : Int32)), .val (.int (1 : Int32)), .unset, .unset] [(.int (0 : Int32))]))
  refine own_go (fun t_ k_ => XS.iloadN A0.here hx rfl (hb hby d11_1) rfl k_) ?_
  show own_Go _ _ _ _ (T0.setTop (mkF m 2 #[.val (.ref r0), .val (.int (0 : Int32)), .val (.int (1 : Int32)), .unset, .unset] [(.int (1 : Int32)), (.int (0 : Int32))]))
  refine own_go (fun t_ k_ => XS.iadd A0.here hx rfl (hb hby d11_2) rfl k_) ?_
  show own_Go _ _ _ _ (T0.setTop (mkF m 3 #[.val (.ref r0), .val (.int (0 : Int32)), .val (.int (1 : Int32)), .unset, .unset] [(.int (1 : Int32))]))
  refine own_go (fun t_ k_ => XS.istoreN A0.here hx rfl (hb hby d11_3) rfl (l' := #[.val (.ref r0), .val (.int (0 : Int32)), .val (.int (1 : Int32)), .val (.int (1 : Int32)), .unset]) rfl k_) ?_
  show own_Go _ _ _ _ (T0.setTop (mkF m 4 #[.val (.ref r0), .val (.int (0 : Int32)), .val (.int (1 : Int32)), .val (.int (1 : Int32)), .unset] []))
  refine own_go (fun t_ k_ => XS.iloadN A0.here hx rfl (hb hby d11_4) rfl k_) ?_
  show own_Go _ _ _ _ (T0.setTop (mkF m 5 #[.val (.ref r0), .val (.int (0 : Int32)), .val (.int (1 : Int32)), .val (.int (1 : Int32)), .unset] [(.int (0 : Int32))]))
  refine own_go (fun t_ k_ => XS.istore A0.here hx rfl (hb hby d11_5) rfl (l' := #[.val (.ref r0), .val (.int (0 : Int32)), .val (.int (1 : Int32)), .val (.int (1 : Int32)), .val (.int (0 : Int32))]) rfl k_) ?_
  show own_Go _ _ _ _ (T0.setTop (mkF m 7 #[.val (.ref r0), .val (.int (0 : Int32)), .val (.int (1 : Int32)), .val (.int (1 : Int32)), .val (.int (0 : Int32))] []))
  refine own_go (fun t_ k_ => XS.iload A0.here hx rfl (hb hby d11_7) rfl k_) ?_
  show own_Go _ _ _ _ (T0.setTop (mkF m 9 #[.val (.ref r0), .val (.int (0 : Int32)), .val (.int (1 : Int32)), .val (.int (1 : Int32)), .val (.int (0 : Int32))] [(.int (0 : Int32))]))
  refine own_go (fun t_ k_ => XS.iloadN A0.here hx rfl (hb hby d11_9) rfl k_) ?_
  show own_Go _ _ _ _ (T0.setTop (mkF m 10 #[.val (.ref r0), .val (.int (0 : Int32)), .val (.int (1 : Int32)), .val (.int (1 : Int32)), .val (.int (0 : Int32))] [(.int (1 : Int32)), (.int (0 : Int32))]))
  have hc1 : (0 : Int32) < (1 : Int32) := (by decide)
  refine own_go (fun t_ k_ => XS.icmpNo A0.here hx rfl (hb hby d11_10) rfl (tlt hc1).2.1 k_) ?_
  show own_Go _ _ _ _ (T0.setTop (mkF m 13 #[.val (.ref r0), .val (.int (0 : Int32)), .val (.int (1 : Int32)), .val (.int (1 : Int32)), .val (.int (0 : Int32))] []))
  refine own_go (fun t_ k_ => XS.aloadN A0.here hx rfl (hb hby d11_13) rfl rfl k_) ?_
  show own_Go _ _ _ _ (T0.setTop (mkF m 14 #[.val (.ref r0), .val (.int (0 : Int32)), .val (.int (1 : Int32)), .val (.int (1 : Int32)), .val (.int (0 : Int32))] [(.ref r0)]))
  refine own_go (fun t_ k_ => XS.iload A0.here hx rfl (hb hby d11_14) rfl k_) ?_
  show own_Go _ _ _ _ (T0.setTop (mkF m 16 #[.val (.ref r0), .val (.int (0 : Int32)), .val (.int (1 : Int32)), .val (.int (1 : Int32)), .val (.int (0 : Int32))] [(.int (0 : Int32)), (.ref r0)]))
  refine own_ldB A0 hx hZ V0 ⟨by decide, by decide⟩ rfl rfl (hb hby d11_16) ?_
  show own_Go _ _ _ _ (T0.setTop (mkF m 17 #[.val (.ref r0), .val (.int (0 : Int32)), .val (.int (1 : Int32)), .val (.int (1 : Int32)), .val (.int (0 : Int32))] [(.int (99 : Int32))]))
  have hc2 : ¬ ((99 : Int32) < (0 : Int32)) := (by decide)
  refine own_go (fun t_ k_ => XS.ifYes A0.here hx rfl (pc0 := 17) (pc' := 25) rfl (hb hby d11_17) rfl ((if0 _ _).trans (flt hc2).2.1) (by decide) (by decide) k_) ?_
  show own_Go _ _ _ _ (T0.setTop (mkF m 25 #[.val (.ref r0), .val (.int (0 : Int32)), .val (.int (1 : Int32)), .val (.int (1 : Int32)), .val (.int (0 : Int32))] []))
  refine own_go (fun t_ k_ => XS.iinc A0.here hx rfl (hb hby d11_25) rfl (l' := #[.val (.ref r0), .val (.int (0 : Int32)), .val (.int (1 : Int32)), .val (.int (1 : Int32)), .val (.int (1 : Int32))]) rfl k_) ?_
  show own_Go _ _ _ _ (T0.setTop (mkF m 28 #[.val (.ref r0), .val (.int (0 : Int32)), .val (.int (1 : Int32)), .val (.int (1 : Int32)), .val (.int (1 : Int32))] []))
  refine own_go (fun t_ k_ => XS.goto A0.here hx rfl (pc0 := 28) (pc' := 7) rfl (hb hby d11_28) (by decide) (by decide) k_) ?_
  show own_Go _ _ _ _ (T0.setTop (mkF m 7 #[.val (.ref r0), .val (.int (0 : Int32)), .val (.int (1 : Int32)), .val (.int (1 : Int32)), .val (.int (1 : Int32))] []))
  refine own_go (fun t_ k_ => XS.iload A0.here hx rfl (hb hby d11_7) rfl k_) ?_
  show own_Go _ _ _ _ (T0.setTop (mkF m 9 #[.val (.ref r0), .val (.int (0 : Int32)), .val (.int (1 : Int32)), .val (.int (1 : Int32)), .val (.int (1 : Int32))] [(.int (1 : Int32))]))
  refine own_go (fun t_ k_ => XS.iloadN A0.here hx rfl (hb hby d11_9) rfl k_) ?_
  show own_Go _ _ _ _ (T0.setTop (mkF m 10 #[.val (.ref r0), .val (.int (0 : Int32)), .val (.int (1 : Int32)), .val (.int (1 : Int32)), .val (.int (1 : Int32))] [(.int (1 : Int32)), (.int (1 : Int32))]))
  have hc3 : ¬ ((1 : Int32) < (1 : Int32)) := (by decide)
  refine own_go (fun t_ k_ => XS.icmpYes A0.here hx rfl (pc0 := 10) (pc' := 31) rfl (hb hby d11_10) rfl (flt hc3).2.1 (by decide) (by decide) k_) ?_
  show own_Go _ _ _ _ (T0.setTop (mkF m 31 #[.val (.ref r0), .val (.int (0 : Int32)), .val (.int (1 : Int32)), .val (.int (1 : Int32)), .val (.int (1 : Int32))] []))
  refine own_go (fun t_ k_ => XS.iloadN A0.here hx rfl (hb hby d11_31) rfl k_) ?_
  show own_Go _ _ _ _ (T0.setTop (mkF m 32 #[.val (.ref r0), .val (.int (0 : Int32)), .val (.int (1 : Int32)), .val (.int (1 : Int32)), .val (.int (1 : Int32))] [(.int (1 : Int32))]))
  refine own_retI A0 hx hret hlk (by decide) (by decide) (hb hby d11_32) ?_
  exact ⟨rfl, rfl⟩
theorem ef_10 (m : MethodId) (r0 : Addr) (y1 : Int32) (y2 : Int32) : entryFrame m #[(.ref r0), (.int y1), (.int y2)] 3 = mkF m 0 #[.val (.ref r0), .val (.int y1), .val (.int y2)] [] := by first | (simp [entryFrame, mkF, argsToLocals, Value.category]; done) | rfl
theorem d10_0 : decode jdk_123_method_2_code 0 = .ok (.aload_n 0, 1) := by decide +kernel
theorem d10_1 : decode jdk_123_method_2_code 1 = .ok (.iload_n 1, 1) := by decide +kernel
theorem d10_2 : decode jdk_123_method_2_code 2 = .ok (.iload_n 2, 1) := by decide +kernel
theorem d10_3 : decode jdk_123_method_2_code 3 = .ok (.invokestatic 7, 3) := by decide +kernel
theorem pd___BII_I : parseMethodDescriptor "([BII)I" = some ⟨[(.array .byte), .int, .int], some .int⟩ := by decide +kernel
theorem d10_6 : decode jdk_123_method_2_code 6 = .ok (.iload_n 2, 1) := by decide +kernel
theorem d10_7 : decode jdk_123_method_2_code 7 = .ok (.if_icmp .eq 7, 3) := by decide +kernel
theorem d10_14 : decode jdk_123_method_2_code 14 = .ok (.iconst 0, 1) := by decide +kernel
theorem d10_15 : decode jdk_123_method_2_code 15 = .ok (.ireturn, 1) := by decide +kernel
set_option maxRecDepth 65536 in
set_option maxHeartbeats 40000000 in
theorem rm10 (l : Launch) (Z : State) (a0 : Array Value) (hw : ∀ d ∈ tables_1, d.before a0 Z = true) (r0 : Addr) (h0 : Heap) (n0 : Nat) (V0 : own_Arr Z h0 r0 .byte (1 : Int32) (fun j => ([99] : List Int32).getD j.toNatClampNeg 0)) :
    own_Met l Z n0 (⟨"java/lang/StringCoding", "hasNegatives", "([BII)Z"⟩ : MethodName) jdk_123_method_2_code 3 (some .boolean) ({ frames := 1, cells := 0, slots := 0, locals := 16 } : Room) #[(.ref r0), (.int (0 : Int32)), (.int (1 : Int32))] h0 (fun v h => v = some (.int 0) ∧ h0 = h) := by
  refine own_met (plainFor_of_name pn_11) ?_
  intro p e s m below meth c T0 hx hby hml hown hnm hret hlk hZ A0
  rw [ef_10]
  show own_Go _ _ _ _ (T0.setTop (mkF m 0 #[.val (.ref r0), .val (.int (0 : Int32)), .val (.int (1 : Int32))] []))
  refine own_go (fun t_ k_ => XS.aloadN A0.here hx rfl (hb hby d10_0) rfl rfl k_) ?_
  show own_Go _ _ _ _ (T0.setTop (mkF m 1 #[.val (.ref r0), .val (.int (0 : Int32)), .val (.int (1 : Int32))] [(.ref r0)]))
  refine own_go (fun t_ k_ => XS.iloadN A0.here hx rfl (hb hby d10_1) rfl k_) ?_
  show own_Go _ _ _ _ (T0.setTop (mkF m 2 #[.val (.ref r0), .val (.int (0 : Int32)), .val (.int (1 : Int32))] [(.int (0 : Int32)), (.ref r0)]))
  refine own_go (fun t_ k_ => XS.iloadN A0.here hx rfl (hb hby d10_2) rfl k_) ?_
  show own_Go _ _ _ _ (T0.setTop (mkF m 3 #[.val (.ref r0), .val (.int (0 : Int32)), .val (.int (1 : Int32))] [(.int (1 : Int32)), (.int (0 : Int32)), (.ref r0)]))
  refine own_callS A0 hx hZ hown (y := (⟨"java/lang/StringCoding", "countPositives", "([BII)I"⟩ : MethodName)) (hw _ (List.mem_of_getElem? (i := 57) rfl)) (hw _ (List.mem_of_getElem? (i := 58) rfl)) (hw _ (List.mem_of_getElem? (i := 55) rfl)) (hw _ (List.mem_of_getElem? (i := 59) rfl)) (by decide) (argsL := [(.ref r0), (.int (0 : Int32)), (.int (1 : Int32))]) (rest := []) (rm11_0_1 l Z a0 hw r0 h0 n0 V0) 0 (by decide) (by decide) rfl (by rw [hml]; rfl) (lenOf pd___BII_I rfl) rfl (by show 2 * 0 + _ ≤ _; exact Nat.le_of_eq rfl) (hb hby d10_3) (by decide) (by decide) (fun v4 T1 h3 A2 hQ5 => ?_)
  obtain ⟨rfl, rfl⟩ := hQ5
  show own_Go _ _ _ _ (T1.setTop (mkF m 6 #[.val (.ref r0), .val (.int (0 : Int32)), .val (.int (1 : Int32))] [(.int (1 : Int32))]))
  refine own_go (fun t_ k_ => XS.iloadN A2.here hx rfl (hb hby d10_6) rfl k_) ?_
  show own_Go _ _ _ _ (T1.setTop (mkF m 7 #[.val (.ref r0), .val (.int (0 : Int32)), .val (.int (1 : Int32))] [(.int (1 : Int32)), (.int (1 : Int32))]))
  have hc6 : (1 : Int32) = (1 : Int32) := (by decide)
  refine own_go (fun t_ k_ => XS.icmpYes A2.here hx rfl (pc0 := 7) (pc' := 14) rfl (hb hby d10_7) rfl (teq hc6).1 (by decide) (by decide) k_) ?_
  show own_Go _ _ _ _ (T1.setTop (mkF m 14 #[.val (.ref r0), .val (.int (0 : Int32)), .val (.int (1 : Int32))] []))
  refine own_go (fun t_ k_ => XS.iconst A2.here hx rfl (hb hby d10_14) k_) ?_
  show own_Go _ _ _ _ (T1.setTop (mkF m 15 #[.val (.ref r0), .val (.int (0 : Int32)), .val (.int (1 : Int32))] [(.int (0 : Int32))]))
  refine own_retN A2 hx (t := .boolean) hret (by simp) hlk (by decide) (by decide) (hb hby d10_15) ?_
  exact ⟨rfl, rfl⟩
theorem ef_9 (m : MethodId) (y0 : Int32) (r1 : Addr) (y2 : Int32) : entryFrame m #[(.int y0), (.ref r1), (.int y2)] 9 = mkF m 0 #[.val (.int y0), .val (.ref r1), .val (.int y2), .unset, .unset, .unset, .unset, .unset, .unset] [] := by first | (simp [entryFrame, mkF, argsToLocals, Value.category]; done) | rfl
theorem d9_0 : decode jdk_42_method_46_code 0 = .ok (.iload_n 0, 1) := by decide +kernel
theorem d9_1 : decode jdk_42_method_46_code 1 = .ok (.iconst 1, 1) := by decide +kernel
theorem d9_2 : decode jdk_42_method_46_code 2 = .ok (.if_icmp .ne 9, 3) := by decide +kernel
theorem d9_11 : decode jdk_42_method_46_code 11 = .ok (.aload_n 1, 1) := by decide +kernel
theorem d9_12 : decode jdk_42_method_46_code 12 = .ok (.iconst 0, 1) := by decide +kernel
theorem d9_13 : decode jdk_42_method_46_code 13 = .ok (.aload_n 1, 1) := by decide +kernel
theorem d9_14 : decode jdk_42_method_46_code 14 = .ok (.arraylength, 1) := by decide +kernel
theorem d9_15 : decode jdk_42_method_46_code 15 = .ok (.invokestatic 128, 3) := by decide +kernel
theorem pd___BII_Z : parseMethodDescriptor "([BII)Z" = some ⟨[(.array .byte), .int, .int], some .boolean⟩ := by decide +kernel
theorem d9_18 : decode jdk_42_method_46_code 18 = .ok (.ifCond .ne 11, 3) := by decide +kernel
theorem d9_21 : decode jdk_42_method_46_code 21 = .ok (.aload_n 1, 1) := by decide +kernel
theorem d9_22 : decode jdk_42_method_46_code 22 = .ok (.invokevirtual 279, 3) := by decide +kernel
theorem d9_25 : decode jdk_42_method_46_code 25 = .ok (.checkcast 280, 3) := by decide +kernel
theorem d9_28 : decode jdk_42_method_46_code 28 = .ok (.areturn, 1) := by decide +kernel
set_option maxRecDepth 65536 in
set_option maxHeartbeats 40000000 in
theorem rm9 (l : Launch) (Z : State) (a0 : Array Value) (hw : ∀ d ∈ tables_1, d.before a0 Z = true) (r1 : Addr) (h0 : Heap) (n0 : Nat) (Z0 : n0 ≤ h0.size) (V1 : own_Arr Z h0 r1 .byte (1 : Int32) (fun j => ([99] : List Int32).getD j.toNatClampNeg 0)) (E1 : Exa Z h0 r1 "[B") :
    own_Met l Z n0 (⟨"java/lang/String", "encodeUTF8", "(B[BZ)[B"⟩ : MethodName) jdk_42_method_46_code 9 (some (.array .byte)) ({ frames := 2, cells := 1, slots := 1, locals := 30 } : Room) #[(.int (0 : Int32)), (.ref r1), (.int (1 : Int32))] h0 (fun v h => Keep h0 h [] ∧ ∃ t, v = some (.ref t) ∧ n0 ≤ t ∧ h0.size ≤ t ∧ own_Arr Z h t .byte (1 : Int32) (fun j => ([99] : List Int32).getD j.toNatClampNeg 0) ∧ Exa Z h t "[B") := by
  refine own_met (plainFor_of_name pn_7) ?_
  intro p e s m below meth c T0 hx hby hml hown hnm hret hlk hZ A0
  rw [ef_9]
  show own_Go _ _ _ _ (T0.setTop (mkF m 0 #[.val (.int (0 : Int32)), .val (.ref r1), .val (.int (1 : Int32)), .unset, .unset, .unset, .unset, .unset, .unset] []))
  refine own_go (fun t_ k_ => XS.iloadN A0.here hx rfl (hb hby d9_0) rfl k_) ?_
  show own_Go _ _ _ _ (T0.setTop (mkF m 1 #[.val (.int (0 : Int32)), .val (.ref r1), .val (.int (1 : Int32)), .unset, .unset, .unset, .unset, .unset, .unset] [(.int (0 : Int32))]))
  refine own_go (fun t_ k_ => XS.iconst A0.here hx rfl (hb hby d9_1) k_) ?_
  show own_Go _ _ _ _ (T0.setTop (mkF m 2 #[.val (.int (0 : Int32)), .val (.ref r1), .val (.int (1 : Int32)), .unset, .unset, .unset, .unset, .unset, .unset] [(.int (1 : Int32)), (.int (0 : Int32))]))
  have hc1 : ¬ ((0 : Int32) = (1 : Int32)) := (by decide)
  refine own_go (fun t_ k_ => XS.icmpYes A0.here hx rfl (pc0 := 2) (pc' := 11) rfl (hb hby d9_2) rfl (feq hc1).2 (by decide) (by decide) k_) ?_
  show own_Go _ _ _ _ (T0.setTop (mkF m 11 #[.val (.int (0 : Int32)), .val (.ref r1), .val (.int (1 : Int32)), .unset, .unset, .unset, .unset, .unset, .unset] []))
  refine own_go (fun t_ k_ => XS.aloadN A0.here hx rfl (hb hby d9_11) rfl rfl k_) ?_
  show own_Go _ _ _ _ (T0.setTop (mkF m 12 #[.val (.int (0 : Int32)), .val (.ref r1), .val (.int (1 : Int32)), .unset, .unset, .unset, .unset, .unset, .unset] [(.ref r1)]))
  refine own_go (fun t_ k_ => XS.iconst A0.here hx rfl (hb hby d9_12) k_) ?_
  show own_Go _ _ _ _ (T0.setTop (mkF m 13 #[.val (.int (0 : Int32)), .val (.ref r1), .val (.int (1 : Int32)), .unset, .unset, .unset, .unset, .unset, .unset] [(.int (0 : Int32)), (.ref r1)]))
  refine own_go (fun t_ k_ => XS.aloadN A0.here hx rfl (hb hby d9_13) rfl rfl k_) ?_
  show own_Go _ _ _ _ (T0.setTop (mkF m 14 #[.val (.int (0 : Int32)), .val (.ref r1), .val (.int (1 : Int32)), .unset, .unset, .unset, .unset, .unset, .unset] [(.ref r1), (.int (0 : Int32)), (.ref r1)]))
  refine own_len A0 hx hZ V1 rfl rfl (hb hby d9_14) ?_
  show own_Go _ _ _ _ (T0.setTop (mkF m 15 #[.val (.int (0 : Int32)), .val (.ref r1), .val (.int (1 : Int32)), .unset, .unset, .unset, .unset, .unset, .unset] [(.int (1 : Int32)), (.int (0 : Int32)), (.ref r1)]))
  refine own_callS A0 hx hZ hown (y := (⟨"java/lang/StringCoding", "hasNegatives", "([BII)Z"⟩ : MethodName)) (hw _ (List.mem_of_getElem? (i := 53) rfl)) (hw _ (List.mem_of_getElem? (i := 54) rfl)) (hw _ (List.mem_of_getElem? (i := 55) rfl)) (hw _ (List.mem_of_getElem? (i := 56) rfl)) (by decide) (argsL := [(.ref r1), (.int (0 : Int32)), (.int (1 : Int32))]) (rest := []) (rm10 l Z a0 hw r1 h0 n0 V1) 0 (by decide) (by decide) rfl (by rw [hml]; rfl) (lenOf pd___BII_Z rfl) rfl (by show 2 * 0 + _ ≤ _; exact Nat.le_of_eq rfl) (hb hby d9_15) (by decide) (by decide) (fun v5 T2 h4 A3 hQ6 => ?_)
  obtain ⟨rfl, rfl⟩ := hQ6
  show own_Go _ _ _ _ (T2.setTop (mkF m 18 #[.val (.int (0 : Int32)), .val (.ref r1), .val (.int (1 : Int32)), .unset, .unset, .unset, .unset, .unset, .unset] [(.int (0 : Int32))]))
  have hc7 : (0 : Int32) = (0 : Int32) := (by decide)
  refine own_go (fun t_ k_ => XS.ifNo A3.here hx rfl (hb hby d9_18) rfl ((if0 _ _).trans (teq hc7).2) k_) ?_
  show own_Go _ _ _ _ (T2.setTop (mkF m 21 #[.val (.int (0 : Int32)), .val (.ref r1), .val (.int (1 : Int32)), .unset, .unset, .unset, .unset, .unset, .unset] []))
  refine own_go (fun t_ k_ => XS.aloadN A3.here hx rfl (hb hby d9_21) rfl rfl k_) ?_
  show own_Go _ _ _ _ (T2.setTop (mkF m 22 #[.val (.int (0 : Int32)), .val (.ref r1), .val (.int (1 : Int32)), .unset, .unset, .unset, .unset, .unset, .unset] [(.ref r1)]))
  refine own_cloneB A3 hx hZ hown (hw _ (List.mem_of_getElem? (i := 60) rfl)) (hw _ (List.mem_of_getElem? (i := 61) rfl)) (hw _ (List.mem_of_getElem? (i := 65) rfl)) (hw _ (List.mem_of_getElem? (i := 63) rfl)) (hw _ (List.mem_of_getElem? (i := 64) rfl)) (hw _ (List.mem_of_getElem? (i := 66) rfl)) V1 E1 own_fitJ rfl (by rw [hml]; rfl) (rest := []) rfl (hb hby d9_22) (by decide) 0 (by show 2 * 0 + _ ≤ _; exact Nat.le_of_eq rfl) (by decide) 1 (by decide) (by decide) (by decide) (fun T8 h10 b11 ha_b11 A9 E12 V13 X14 => ?_)
  have ne_r1_b11 : r1 ≠ b11 := Nat.ne_of_lt (by rw [ha_b11]; exact V1.lt)
  have g_b11 : n0 ≤ b11 := by rw [ha_b11]; exact Z0
  have nw_b11 : h0.size ≤ b11 := by rw [ha_b11]; exact (Keep.refl h0 []).1
  have Z15 : n0 ≤ h10.size := Nat.le_trans Z0 E12.1
  have K16 : Keep h0 h10 [] := (Keep.refl h0 []).ext E12
  have V17 : own_Arr Z h10 r1 .byte (1 : Int32) (fun j => ([99] : List Int32).getD j.toNatClampNeg 0) := V1.ext E12
  have E18 : Exa Z h10 r1 "[B" := E1.ext E12
  show own_Go _ _ _ _ (T8.setTop (mkF m 25 #[.val (.int (0 : Int32)), .val (.ref r1), .val (.int (1 : Int32)), .unset, .unset, .unset, .unset, .unset, .unset] [(.ref b11)]))
  refine own_cast A9 hx hZ hown (hw _ (List.mem_of_getElem? (i := 67) rfl)) (Ins.of_exa X14 (hw _ (List.mem_of_getElem? (i := 68) rfl))) rfl rfl (hb hby d9_25) (fun T19 A20 => ?_)
  show own_Go _ _ _ _ (T19.setTop (mkF m 28 #[.val (.int (0 : Int32)), .val (.ref r1), .val (.int (1 : Int32)), .unset, .unset, .unset, .unset, .unset, .unset] [(.ref b11)]))
  refine own_retA A20 hx hret rfl hlk (by decide) (by decide) rfl (hb hby d9_28) ?_
  exact ⟨K16, b11, rfl, g_b11, nw_b11, V13, X14⟩
theorem ef_8 (m : MethodId) (u8 : Addr) (y1 : Int32) (r2 : Addr) : entryFrame m #[(.ref u8), (.int y1), (.ref r2)] 3 = mkF m 0 #[.val (.ref u8), .val (.int y1), .val (.ref r2)] [] := by first | (simp [entryFrame, mkF, argsToLocals, Value.category]; done) | rfl
theorem d8_0 : decode jdk_42_method_18_code 0 = .ok (.aload_n 0, 1) := by decide +kernel
theorem d8_1 : decode jdk_42_method_18_code 1 = .ok (.getstatic 86, 3) := by decide +kernel
theorem d8_4 : decode jdk_42_method_18_code 4 = .ok (.if_acmp .ne 10, 3) := by decide +kernel
theorem d8_7 : decode jdk_42_method_18_code 7 = .ok (.iload_n 1, 1) := by decide +kernel
theorem d8_8 : decode jdk_42_method_18_code 8 = .ok (.aload_n 2, 1) := by decide +kernel
theorem d8_9 : decode jdk_42_method_18_code 9 = .ok (.iconst 1, 1) := by decide +kernel
theorem d8_10 : decode jdk_42_method_18_code 10 = .ok (.invokestatic 252, 3) := by decide +kernel
theorem pd__B_BZ__B : parseMethodDescriptor "(B[BZ)[B" = some ⟨[.byte, (.array .byte), .boolean], some (.array .byte)⟩ := by decide +kernel
theorem d8_13 : decode jdk_42_method_18_code 13 = .ok (.areturn, 1) := by decide +kernel
set_option maxRecDepth 65536 in
set_option maxHeartbeats 40000000 in
theorem rm8 (l : Launch) (Z : State) (a0 : Array Value) (hw : ∀ d ∈ tables_1, d.before a0 Z = true) (u8 : Addr) (r2 : Addr) (u8 : Addr) (h0 : Heap) (n0 : Nat) (O0 : Old Z n0 h0) (Z0 : n0 ≤ h0.size) (V1 : own_Arr Z h0 r2 .byte (1 : Int32) (fun j => ([99] : List Int32).getD j.toNatClampNeg 0)) (E1 : Exa Z h0 r2 "[B") (S_INSTANCE : Sta Z Z.heap "sun/nio/cs/UTF_8" "INSTANCE" "Lsun/nio/cs/UTF_8;" (.ref u8)) :
    own_Met l Z n0 (⟨"java/lang/String", "encode", "(Ljava/nio/charset/Charset;B[B)[B"⟩ : MethodName) jdk_42_method_18_code 3 (some (.array .byte)) ({ frames := 3, cells := 1, slots := 1, locals := 50 } : Room) #[(.ref u8), (.int (0 : Int32)), (.ref r2)] h0 (fun v h => Keep h0 h [] ∧ ∃ t, v = some (.ref t) ∧ n0 ≤ t ∧ h0.size ≤ t ∧ own_Arr Z h t .byte (1 : Int32) (fun j => ([99] : List Int32).getD j.toNatClampNeg 0) ∧ Exa Z h t "[B") := by
  refine own_met (plainFor_of_name pn_7) ?_
  intro p e s m below meth c T0 hx hby hml hown hnm hret hlk hZ A0
  rw [ef_8]
  show own_Go _ _ _ _ (T0.setTop (mkF m 0 #[.val (.ref u8), .val (.int (0 : Int32)), .val (.ref r2)] []))
  refine own_go (fun t_ k_ => XS.aloadN A0.here hx rfl (hb hby d8_0) rfl rfl k_) ?_
  show own_Go _ _ _ _ (T0.setTop (mkF m 1 #[.val (.ref u8), .val (.int (0 : Int32)), .val (.ref r2)] [(.ref u8)]))
  refine own_getS A0 hx hZ hown (host := "") (Or.inl (hw _ (List.mem_of_getElem? (i := 48) rfl))) Via.refl (S_INSTANCE.ext O0.2) rfl (hb hby d8_1) (fun T1 A2 => ?_)
  show own_Go _ _ _ _ (T1.setTop (mkF m 4 #[.val (.ref u8), .val (.int (0 : Int32)), .val (.ref r2)] [(.ref u8), (.ref u8)]))
  have hc3 : u8 = u8 := rfl
  refine own_go (fun t_ k_ => XS.acmpNo A2.here hx rfl (hb hby d8_4) rfl (own_aeq hc3).2 k_) ?_
  show own_Go _ _ _ _ (T1.setTop (mkF m 7 #[.val (.ref u8), .val (.int (0 : Int32)), .val (.ref r2)] []))
  refine own_go (fun t_ k_ => XS.iloadN A2.here hx rfl (hb hby d8_7) rfl k_) ?_
  show own_Go _ _ _ _ (T1.setTop (mkF m 8 #[.val (.ref u8), .val (.int (0 : Int32)), .val (.ref r2)] [(.int (0 : Int32))]))
  refine own_go (fun t_ k_ => XS.aloadN A2.here hx rfl (hb hby d8_8) rfl rfl k_) ?_
  show own_Go _ _ _ _ (T1.setTop (mkF m 9 #[.val (.ref u8), .val (.int (0 : Int32)), .val (.ref r2)] [(.ref r2), (.int (0 : Int32))]))
  refine own_go (fun t_ k_ => XS.iconst A2.here hx rfl (hb hby d8_9) k_) ?_
  show own_Go _ _ _ _ (T1.setTop (mkF m 10 #[.val (.ref u8), .val (.int (0 : Int32)), .val (.ref r2)] [(.int (1 : Int32)), (.ref r2), (.int (0 : Int32))]))
  refine own_callS A2 hx hZ hown (y := (⟨"java/lang/String", "encodeUTF8", "(B[BZ)[B"⟩ : MethodName)) (hw _ (List.mem_of_getElem? (i := 50) rfl)) (hw _ (List.mem_of_getElem? (i := 51) rfl)) (hw _ (List.mem_of_getElem? (i := 17) rfl)) (hw _ (List.mem_of_getElem? (i := 52) rfl)) (by decide) (argsL := [(.int (0 : Int32)), (.ref r2), (.int (1 : Int32))]) (rest := []) (rm9 l Z a0 hw r2 h0 n0 Z0 V1 E1) 0 (by decide) (by decide) rfl (by rw [hml]; rfl) (lenOf pd__B_BZ__B rfl) rfl (by show 2 * 0 + _ ≤ _; exact Nat.le_of_eq rfl) (hb hby d8_10) (by decide) (by decide) (fun v7 T4 h6 A5 hQ8 => ?_)
  obtain ⟨K9, t10, rfl, gt11, nt12, V13, E14⟩ := hQ8
  have ne_r2_t10 : r2 ≠ t10 := Nat.ne_of_lt (Nat.lt_of_lt_of_le V1.lt nt12)
  have nw_t10 : h0.size ≤ t10 := Nat.le_trans (Keep.refl h0 []).1 nt12
  have O15 : Old Z n0 h6 := O0.keep K9 all0
  have Z16 : n0 ≤ h6.size := Nat.le_trans Z0 K9.1
  have K17 : Keep h0 h6 [] := (Keep.refl h0 []).trans K9 all0
  have V18 : own_Arr Z h6 r2 .byte (1 : Int32) (fun j => ([99] : List Int32).getD j.toNatClampNeg 0) := V1.keep K9 nin0
  have E19 : Exa Z h6 r2 "[B" := E1.keep K9
  show own_Go _ _ _ _ (T4.setTop (mkF m 13 #[.val (.ref u8), .val (.int (0 : Int32)), .val (.ref r2)] [(.ref t10)]))
  refine own_retA A5 hx hret rfl hlk (by decide) (by decide) rfl (hb hby d8_13) ?_
  exact ⟨K17, t10, rfl, gt11, nw_t10, V13, E14⟩
theorem ef_6 (m : MethodId) (r0 : Addr) (u8 : Addr) : entryFrame m #[(.ref r0), (.ref u8)] 2 = mkF m 0 #[.val (.ref r0), .val (.ref u8)] [] := by first | (simp [entryFrame, mkF, argsToLocals, Value.category]; done) | rfl
theorem d6_0 : decode jdk_42_method_64_code 0 = .ok (.aload_n 1, 1) := by decide +kernel
theorem d6_1 : decode jdk_42_method_64_code 1 = .ok (.ifnonnull 11, 3) := by decide +kernel
theorem d6_12 : decode jdk_42_method_64_code 12 = .ok (.aload_n 1, 1) := by decide +kernel
theorem d6_13 : decode jdk_42_method_64_code 13 = .ok (.aload_n 0, 1) := by decide +kernel
theorem d6_14 : decode jdk_42_method_64_code 14 = .ok (.invokevirtual 335, 3) := by decide +kernel
theorem pd___B : parseMethodDescriptor "()B" = some ⟨[], some .byte⟩ := by decide +kernel
theorem d6_17 : decode jdk_42_method_64_code 17 = .ok (.aload_n 0, 1) := by decide +kernel
theorem d6_18 : decode jdk_42_method_64_code 18 = .ok (.getfield 9, 3) := by decide +kernel
theorem d6_21 : decode jdk_42_method_64_code 21 = .ok (.invokestatic 535, 3) := by decide +kernel
theorem pd__Ljava_nio_charset_Charset_B_B__B : parseMethodDescriptor "(Ljava/nio/charset/Charset;B[B)[B" = some ⟨[(.object "java/nio/charset/Charset"), .byte, (.array .byte)], some (.array .byte)⟩ := by decide +kernel
theorem d6_24 : decode jdk_42_method_64_code 24 = .ok (.areturn, 1) := by decide +kernel
set_option maxRecDepth 65536 in
set_option maxHeartbeats 40000000 in
theorem rm6 (l : Launch) (Z : State) (a0 : Array Value) (hw : ∀ d ∈ tables_1, d.before a0 Z = true) (r0 : Addr) (u8 : Addr) (t0 : Addr) (z_C : Int32) (h0 : Heap) (n0 : Nat) (O0 : Old Z n0 h0) (Z0 : n0 ≤ h0.size) (hz : ¬ z_C = 0) (E0 : Exa Z h0 r0 "java/lang/String") (Fc : Fld Z h0 r0 "java/lang/String" "coder" "B" (.int (0 : Int32))) (Fv : Fld Z h0 r0 "java/lang/String" "value" "[B" (.ref t0)) (Vs : own_Arr Z h0 t0 .byte (1 : Int32) (fun j => ([99] : List Int32).getD j.toNatClampNeg 0)) (Es : Exa Z h0 t0 "[B") (S_COMPACT_STRINGS : Sta Z Z.heap "java/lang/String" "COMPACT_STRINGS" "Z" (.int z_C)) (S_INSTANCE : Sta Z Z.heap "sun/nio/cs/UTF_8" "INSTANCE" "Lsun/nio/cs/UTF_8;" (.ref u8)) :
    own_Met l Z n0 (⟨"java/lang/String", "getBytes", "(Ljava/nio/charset/Charset;)[B"⟩ : MethodName) jdk_42_method_64_code 2 (some (.array .byte)) ({ frames := 4, cells := 1, slots := 1, locals := 64 } : Room) #[(.ref r0), (.ref u8)] h0 (fun v h => Keep h0 h [] ∧ ∃ t, v = some (.ref t) ∧ n0 ≤ t ∧ h0.size ≤ t ∧ own_Arr Z h t .byte (1 : Int32) (fun j => ([99] : List Int32).getD j.toNatClampNeg 0) ∧ Exa Z h t "[B") := by
  refine own_met (plainFor_of_name pn_7) ?_
  intro p e s m below meth c T0 hx hby hml hown hnm hret hlk hZ A0
  rw [ef_6]
  show own_Go _ _ _ _ (T0.setTop (mkF m 0 #[.val (.ref r0), .val (.ref u8)] []))
  refine own_go (fun t_ k_ => XS.aloadN A0.here hx rfl (hb hby d6_0) rfl rfl k_) ?_
  show own_Go _ _ _ _ (T0.setTop (mkF m 1 #[.val (.ref r0), .val (.ref u8)] [(.ref u8)]))
  refine own_go (fun t_ k_ => XS.ifnonnullYes A0.here hx rfl (pc0 := 1) (pc' := 12) rfl (hb hby d6_1) rfl (by decide) (by decide) k_) ?_
  show own_Go _ _ _ _ (T0.setTop (mkF m 12 #[.val (.ref r0), .val (.ref u8)] []))
  refine own_go (fun t_ k_ => XS.aloadN A0.here hx rfl (hb hby d6_12) rfl rfl k_) ?_
  show own_Go _ _ _ _ (T0.setTop (mkF m 13 #[.val (.ref r0), .val (.ref u8)] [(.ref u8)]))
  refine own_go (fun t_ k_ => XS.aloadN A0.here hx rfl (hb hby d6_13) rfl rfl k_) ?_
  show own_Go _ _ _ _ (T0.setTop (mkF m 14 #[.val (.ref r0), .val (.ref u8)] [(.ref r0), (.ref u8)]))
  refine own_callV A0 hx hZ (y := (⟨"java/lang/String", "coder", "()B"⟩ : MethodName)) (z := (⟨"java/lang/String", "coder", "()B"⟩ : MethodName)) hown (hw _ (List.mem_of_getElem? (i := 37) rfl)) (hw _ (List.mem_of_getElem? (i := 38) rfl)) (hw _ (List.mem_of_getElem? (i := 40) rfl)) (hw _ (List.mem_of_getElem? (i := 39) rfl)) (hw _ (List.mem_of_getElem? (i := 17) rfl)) (hw _ (List.mem_of_getElem? (i := 41) rfl)) (notFace_of_selects (args := #[]) (mvT hZ (hw _ (List.mem_of_getElem? (i := 40) rfl)))) (by decide) (b := r0) (argsL := []) (rest := [(.ref u8)]) E0 (rm7 l Z a0 hw r0 z_C h0 n0 (S_COMPACT_STRINGS.ext O0.2) hz Fc) 1 (by decide) (by decide) rfl (by rw [hml]; rfl) (lenOf pd___B rfl) rfl (by show 2 * 0 + _ ≤ _; exact Nat.le_of_eq rfl) (hb hby d6_14) (by decide) (by decide) (fun v4 T1 h3 A2 hQ5 => ?_)
  obtain ⟨rfl, rfl⟩ := hQ5
  show own_Go _ _ _ _ (T1.setTop (mkF m 17 #[.val (.ref r0), .val (.ref u8)] [(.int (0 : Int32)), (.ref u8)]))
  refine own_go (fun t_ k_ => XS.aloadN A2.here hx rfl (hb hby d6_17) rfl rfl k_) ?_
  show own_Go _ _ _ _ (T1.setTop (mkF m 18 #[.val (.ref r0), .val (.ref u8)] [(.ref r0), (.int (0 : Int32)), (.ref u8)]))
  refine own_getF A2 hx hZ hown (host := "") (Or.inl (hw _ (List.mem_of_getElem? (i := 44) rfl))) Via.refl Fv rfl rfl (hb hby d6_18) (fun T6 A7 => ?_)
  show own_Go _ _ _ _ (T6.setTop (mkF m 21 #[.val (.ref r0), .val (.ref u8)] [(.ref t0), (.int (0 : Int32)), (.ref u8)]))
  refine own_callS A7 hx hZ hown (y := (⟨"java/lang/String", "encode", "(Ljava/nio/charset/Charset;B[B)[B"⟩ : MethodName)) (hw _ (List.mem_of_getElem? (i := 45) rfl)) (hw _ (List.mem_of_getElem? (i := 46) rfl)) (hw _ (List.mem_of_getElem? (i := 17) rfl)) (hw _ (List.mem_of_getElem? (i := 47) rfl)) (by decide) (argsL := [(.ref u8), (.int (0 : Int32)), (.ref t0)]) (rest := []) (rm8 l Z a0 hw u8 t0 u8 h0 n0 O0 Z0 Vs Es S_INSTANCE) 0 (by decide) (by decide) rfl (by rw [hml]; rfl) (lenOf pd__Ljava_nio_charset_Charset_B_B__B rfl) rfl (by show 2 * 0 + _ ≤ _; exact Nat.le_of_eq rfl) (hb hby d6_21) (by decide) (by decide) (fun v11 T8 h10 A9 hQ12 => ?_)
  obtain ⟨K13, t14, rfl, gt15, nt16, V17, E18⟩ := hQ12
  have ne_r0_t14 : r0 ≠ t14 := Nat.ne_of_lt (Nat.lt_of_lt_of_le E0.lt nt16)
  have ne_t0_t14 : t0 ≠ t14 := Nat.ne_of_lt (Nat.lt_of_lt_of_le Vs.lt nt16)
  have nw_t14 : h0.size ≤ t14 := Nat.le_trans (Keep.refl h0 []).1 nt16
  have O19 : Old Z n0 h10 := O0.keep K13 all0
  have Z20 : n0 ≤ h10.size := Nat.le_trans Z0 K13.1
  have K21 : Keep h0 h10 [] := (Keep.refl h0 []).trans K13 all0
  have E22 : Exa Z h10 r0 "java/lang/String" := E0.keep K13
  have F23 : Fld Z h10 r0 "java/lang/String" "coder" "B" (.int (0 : Int32)) := Fc.keep K13 nin0
  have F24 : Fld Z h10 r0 "java/lang/String" "value" "[B" (.ref t0) := Fv.keep K13 nin0
  have V25 : own_Arr Z h10 t0 .byte (1 : Int32) (fun j => ([99] : List Int32).getD j.toNatClampNeg 0) := Vs.keep K13 nin0
  have E26 : Exa Z h10 t0 "[B" := Es.keep K13
  show own_Go _ _ _ _ (T8.setTop (mkF m 24 #[.val (.ref r0), .val (.ref u8)] [(.ref t14)]))
  refine own_retA A9 hx hret rfl hlk (by decide) (by decide) rfl (hb hby d6_24) ?_
  exact ⟨K21, t14, rfl, gt15, nw_t14, V17, E18⟩
theorem ef_15 (m : MethodId) (r0 : Addr) : entryFrame m #[(.ref r0)] 1 = mkF m 0 #[.val (.ref r0)] [] := by first | (simp [entryFrame, mkF, argsToLocals, Value.category]; done) | rfl
theorem pn_15 : plainName "java/util/Objects" = true := by first | (simp [plainName, overriddenIn]; done) | decide +kernel
theorem d15_0 : decode jdk_31_method_10_code 0 = .ok (.aload_n 0, 1) := by decide +kernel
theorem d15_1 : decode jdk_31_method_10_code 1 = .ok (.ifnonnull 11, 3) := by decide +kernel
theorem d15_12 : decode jdk_31_method_10_code 12 = .ok (.aload_n 0, 1) := by decide +kernel
theorem d15_13 : decode jdk_31_method_10_code 13 = .ok (.areturn, 1) := by decide +kernel
set_option maxRecDepth 65536 in
set_option maxHeartbeats 40000000 in
theorem rm15 (l : Launch) (Z : State) (a0 : Array Value) (hw : ∀ d ∈ tables_1, d.before a0 Z = true) (r0 : Addr) (h0 : Heap) (n0 : Nat) :
    own_Met l Z n0 (⟨"java/util/Objects", "requireNonNull", "(Ljava/lang/Object;)Ljava/lang/Object;"⟩ : MethodName) jdk_31_method_10_code 1 (some (.object "java/lang/Object")) ({ frames := 0, cells := 0, slots := 0, locals := 0 } : Room) #[(.ref r0)] h0 (fun v h => v = some (.ref r0) ∧ h0 = h) := by
  refine own_met (plainFor_of_name pn_15) ?_
  intro p e s m below meth c T0 hx hby hml hown hnm hret hlk hZ A0
  rw [ef_15]
  show own_Go _ _ _ _ (T0.setTop (mkF m 0 #[.val (.ref r0)] []))
  refine own_go (fun t_ k_ => XS.aloadN A0.here hx rfl (hb hby d15_0) rfl rfl k_) ?_
  show own_Go _ _ _ _ (T0.setTop (mkF m 1 #[.val (.ref r0)] [(.ref r0)]))
  refine own_go (fun t_ k_ => XS.ifnonnullYes A0.here hx rfl (pc0 := 1) (pc' := 12) rfl (hb hby d15_1) rfl (by decide) (by decide) k_) ?_
  show own_Go _ _ _ _ (T0.setTop (mkF m 12 #[.val (.ref r0)] []))
  refine own_go (fun t_ k_ => XS.aloadN A0.here hx rfl (hb hby d15_12) rfl rfl k_) ?_
  show own_Go _ _ _ _ (T0.setTop (mkF m 13 #[.val (.ref r0)] [(.ref r0)]))
  refine own_retA A0 hx hret rfl hlk (by decide) (by decide) rfl (hb hby d15_13) ?_
  exact ⟨rfl, rfl⟩
theorem ef_17 (m : MethodId) (p0 : Int32) (p1 : Int32) (p2 : Int32) (u3 : Value) (hr_u3 : u3.isRef = true) : entryFrame m #[(.int p0), (.int p1), (.int p2), u3] 4 = mkF m 0 #[.val (.int p0), .val (.int p1), .val (.int p2), .val u3] [] := by
  cases u3 <;> first | rfl | contradiction
theorem pn_17 : plainName "jdk/internal/util/Preconditions" = true := by first | (simp [plainName, overriddenIn]; done) | decide +kernel
theorem d17_0 : decode jdk_41_method_13_code 0 = .ok (.iload_n 2, 1) := by decide +kernel
theorem d17_1 : decode jdk_41_method_13_code 1 = .ok (.iload_n 0, 1) := by decide +kernel
theorem d17_2 : decode jdk_41_method_13_code 2 = .ok (.ior, 1) := by decide +kernel
theorem d17_3 : decode jdk_41_method_13_code 3 = .ok (.iload_n 1, 1) := by decide +kernel
theorem d17_4 : decode jdk_41_method_13_code 4 = .ok (.ior, 1) := by decide +kernel
theorem d17_5 : decode jdk_41_method_13_code 5 = .ok (.ifCond .lt 10, 3) := by decide +kernel
theorem d17_8 : decode jdk_41_method_13_code 8 = .ok (.iload_n 1, 1) := by decide +kernel
theorem d17_9 : decode jdk_41_method_13_code 9 = .ok (.iload_n 2, 1) := by decide +kernel
theorem d17_10 : decode jdk_41_method_13_code 10 = .ok (.iload_n 0, 1) := by decide +kernel
theorem d17_11 : decode jdk_41_method_13_code 11 = .ok (.isub, 1) := by decide +kernel
theorem d17_12 : decode jdk_41_method_13_code 12 = .ok (.if_icmp .le 11, 3) := by decide +kernel
theorem d17_23 : decode jdk_41_method_13_code 23 = .ok (.iload_n 0, 1) := by decide +kernel
theorem d17_24 : decode jdk_41_method_13_code 24 = .ok (.ireturn, 1) := by decide +kernel
set_option maxRecDepth 65536 in
set_option maxHeartbeats 40000000 in
theorem rm17 (l : Launch) (Z : State) (a0 : Array Value) (hw : ∀ d ∈ tables_1, d.before a0 Z = true) (p0 : Int32) (p1 : Int32) (p2 : Int32) (u3 : Value) (h0 : Heap) (n0 : Nat) (hr_u3 : u3.isRef = true) (hA : ¬ ((p2 ||| p0) ||| p1) < 0) (hB : ¬ (p2 - p0) < p1) :
    own_Met l Z n0 (⟨"jdk/internal/util/Preconditions", "checkFromIndexSize", "(IIILjava/util/function/BiFunction;)I"⟩ : MethodName) jdk_41_method_13_code 4 (some .int) ({ frames := 0, cells := 0, slots := 0, locals := 0 } : Room) #[(.int p0), (.int p1), (.int p2), u3] h0 (fun v h => v = some (.int p0) ∧ h0 = h) := by
  refine own_met (plainFor_of_name pn_17) ?_
  intro p e s m below meth c T0 hx hby hml hown hnm hret hlk hZ A0
  rw [ef_17 m p0 p1 p2 u3 hr_u3]
  show own_Go _ _ _ _ (T0.setTop (mkF m 0 #[.val (.int p0), .val (.int p1), .val (.int p2), .val u3] []))
  refine own_go (fun t_ k_ => XS.iloadN A0.here hx rfl (hb hby d17_0) rfl k_) ?_
  show own_Go _ _ _ _ (T0.setTop (mkF m 1 #[.val (.int p0), .val (.int p1), .val (.int p2), .val u3] [(.int p2)]))
  refine own_go (fun t_ k_ => XS.iloadN A0.here hx rfl (hb hby d17_1) rfl k_) ?_
  show own_Go _ _ _ _ (T0.setTop (mkF m 2 #[.val (.int p0), .val (.int p1), .val (.int p2), .val u3] [(.int p0), (.int p2)]))
  refine own_go (fun t_ k_ => XS.ior A0.here hx rfl (hb hby d17_2) rfl k_) ?_
  show own_Go _ _ _ _ (T0.setTop (mkF m 3 #[.val (.int p0), .val (.int p1), .val (.int p2), .val u3] [(.int (p2 ||| p0))]))
  refine own_go (fun t_ k_ => XS.iloadN A0.here hx rfl (hb hby d17_3) rfl k_) ?_
  show own_Go _ _ _ _ (T0.setTop (mkF m 4 #[.val (.int p0), .val (.int p1), .val (.int p2), .val u3] [(.int p1), (.int (p2 ||| p0))]))
  refine own_go (fun t_ k_ => XS.ior A0.here hx rfl (hb hby d17_4) rfl k_) ?_
  show own_Go _ _ _ _ (T0.setTop (mkF m 5 #[.val (.int p0), .val (.int p1), .val (.int p2), .val u3] [(.int ((p2 ||| p0) ||| p1))]))
  have hc1 : ¬ (((p2 ||| p0) ||| p1) < (0 : Int32)) := hA
  refine own_go (fun t_ k_ => XS.ifNo A0.here hx rfl (hb hby d17_5) rfl ((if0 _ _).trans (flt hc1).1) k_) ?_
  show own_Go _ _ _ _ (T0.setTop (mkF m 8 #[.val (.int p0), .val (.int p1), .val (.int p2), .val u3] []))
  refine own_go (fun t_ k_ => XS.iloadN A0.here hx rfl (hb hby d17_8) rfl k_) ?_
  show own_Go _ _ _ _ (T0.setTop (mkF m 9 #[.val (.int p0), .val (.int p1), .val (.int p2), .val u3] [(.int p1)]))
  refine own_go (fun t_ k_ => XS.iloadN A0.here hx rfl (hb hby d17_9) rfl k_) ?_
  show own_Go _ _ _ _ (T0.setTop (mkF m 10 #[.val (.int p0), .val (.int p1), .val (.int p2), .val u3] [(.int p2), (.int p1)]))
  refine own_go (fun t_ k_ => XS.iloadN A0.here hx rfl (hb hby d17_10) rfl k_) ?_
  show own_Go _ _ _ _ (T0.setTop (mkF m 11 #[.val (.int p0), .val (.int p1), .val (.int p2), .val u3] [(.int p0), (.int p2), (.int p1)]))
  refine own_go (fun t_ k_ => XS.isub A0.here hx rfl (hb hby d17_11) rfl k_) ?_
  show own_Go _ _ _ _ (T0.setTop (mkF m 12 #[.val (.int p0), .val (.int p1), .val (.int p2), .val u3] [(.int (p2 - p0)), (.int p1)]))
  have hc2 : ¬ ((p2 - p0) < p1) := hB
  refine own_go (fun t_ k_ => XS.icmpYes A0.here hx rfl (pc0 := 12) (pc' := 23) rfl (hb hby d17_12) rfl (flt hc2).2.2.2 (by decide) (by decide) k_) ?_
  show own_Go _ _ _ _ (T0.setTop (mkF m 23 #[.val (.int p0), .val (.int p1), .val (.int p2), .val u3] []))
  refine own_go (fun t_ k_ => XS.iloadN A0.here hx rfl (hb hby d17_23) rfl k_) ?_
  show own_Go _ _ _ _ (T0.setTop (mkF m 24 #[.val (.int p0), .val (.int p1), .val (.int p2), .val u3] [(.int p0)]))
  refine own_retI A0 hx hret hlk (by decide) (by decide) (hb hby d17_24) ?_
  exact ⟨rfl, rfl⟩
theorem ef_16 (m : MethodId) (p0 : Int32) (p1 : Int32) (p2 : Int32) : entryFrame m #[(.int p0), (.int p1), (.int p2)] 3 = mkF m 0 #[.val (.int p0), .val (.int p1), .val (.int p2)] [] := by first | (simp [entryFrame, mkF, argsToLocals, Value.category]; done) | rfl
theorem d16_0 : decode jdk_42_method_157_code 0 = .ok (.iload_n 0, 1) := by decide +kernel
theorem d16_1 : decode jdk_42_method_157_code 1 = .ok (.iload_n 1, 1) := by decide +kernel
theorem d16_2 : decode jdk_42_method_157_code 2 = .ok (.iload_n 2, 1) := by decide +kernel
theorem d16_3 : decode jdk_42_method_157_code 3 = .ok (.getstatic 1053, 3) := by decide +kernel
theorem d16_6 : decode jdk_42_method_157_code 6 = .ok (.invokestatic 1065, 3) := by decide +kernel
theorem pd__IIILjava_util_function_BiFunction__I : parseMethodDescriptor "(IIILjava/util/function/BiFunction;)I" = some ⟨[.int, .int, .int, (.object "java/util/function/BiFunction")], some .int⟩ := by decide +kernel
theorem d16_9 : decode jdk_42_method_157_code 9 = .ok (.ireturn, 1) := by decide +kernel
set_option maxRecDepth 65536 in
set_option maxHeartbeats 40000000 in
theorem rm16 (l : Launch) (Z : State) (a0 : Array Value) (hw : ∀ d ∈ tables_1, d.before a0 Z = true) (p0 : Int32) (p1 : Int32) (p2 : Int32) (s_F : Value) (h0 : Heap) (n0 : Nat) (O0 : Old Z n0 h0) (hA : ¬ ((p2 ||| p0) ||| p1) < 0) (hB : ¬ (p2 - p0) < p1) (hr_F : s_F.isRef = true) (S_SIOOBE_FORMATTER : Sta Z Z.heap "jdk/internal/util/Preconditions" "SIOOBE_FORMATTER" "Ljava/util/function/BiFunction;" s_F) :
    own_Met l Z n0 (⟨"java/lang/String", "checkBoundsOffCount", "(III)I"⟩ : MethodName) jdk_42_method_157_code 3 (some .int) ({ frames := 1, cells := 0, slots := 0, locals := 15 } : Room) #[(.int p0), (.int p1), (.int p2)] h0 (fun v h => v = some (.int p0) ∧ h0 = h) := by
  refine own_met (plainFor_of_name pn_7) ?_
  intro p e s m below meth c T0 hx hby hml hown hnm hret hlk hZ A0
  rw [ef_16]
  show own_Go _ _ _ _ (T0.setTop (mkF m 0 #[.val (.int p0), .val (.int p1), .val (.int p2)] []))
  refine own_go (fun t_ k_ => XS.iloadN A0.here hx rfl (hb hby d16_0) rfl k_) ?_
  show own_Go _ _ _ _ (T0.setTop (mkF m 1 #[.val (.int p0), .val (.int p1), .val (.int p2)] [(.int p0)]))
  refine own_go (fun t_ k_ => XS.iloadN A0.here hx rfl (hb hby d16_1) rfl k_) ?_
  show own_Go _ _ _ _ (T0.setTop (mkF m 2 #[.val (.int p0), .val (.int p1), .val (.int p2)] [(.int p1), (.int p0)]))
  refine own_go (fun t_ k_ => XS.iloadN A0.here hx rfl (hb hby d16_2) rfl k_) ?_
  show own_Go _ _ _ _ (T0.setTop (mkF m 3 #[.val (.int p0), .val (.int p1), .val (.int p2)] [(.int p2), (.int p1), (.int p0)]))
  refine own_getS A0 hx hZ hown (host := "") (Or.inl (hw _ (List.mem_of_getElem? (i := 94) rfl))) Via.refl (S_SIOOBE_FORMATTER.ext O0.2) rfl (hb hby d16_3) (fun T1 A2 => ?_)
  show own_Go _ _ _ _ (T1.setTop (mkF m 6 #[.val (.int p0), .val (.int p1), .val (.int p2)] [s_F, (.int p2), (.int p1), (.int p0)]))
  refine own_callS A2 hx hZ hown (y := (⟨"jdk/internal/util/Preconditions", "checkFromIndexSize", "(IIILjava/util/function/BiFunction;)I"⟩ : MethodName)) (hw _ (List.mem_of_getElem? (i := 96) rfl)) (hw _ (List.mem_of_getElem? (i := 97) rfl)) (hw _ (List.mem_of_getElem? (i := 95) rfl)) (hw _ (List.mem_of_getElem? (i := 98) rfl)) (by decide) (argsL := [(.int p0), (.int p1), (.int p2), s_F]) (rest := []) (rm17 l Z a0 hw p0 p1 p2 s_F h0 n0 hr_F hA hB) 0 (by decide) (by decide) rfl (by rw [hml]; rfl) (lenOf pd__IIILjava_util_function_BiFunction__I rfl) rfl (by show 2 * 0 + _ ≤ _; exact Nat.le_of_eq rfl) (hb hby d16_6) (by decide) (by decide) (fun v6 T3 h5 A4 hQ7 => ?_)
  obtain ⟨rfl, rfl⟩ := hQ7
  show own_Go _ _ _ _ (T3.setTop (mkF m 9 #[.val (.int p0), .val (.int p1), .val (.int p2)] [(.int p0)]))
  refine own_retI A4 hx hret hlk (by decide) (by decide) (hb hby d16_9) ?_
  exact ⟨rfl, rfl⟩
theorem ef_19 (m : MethodId) (r0 : Addr) (y1 : Int32) (y2 : Int32) : entryFrame m #[(.ref r0), (.int y1), (.int y2)] 3 = mkF m 0 #[.val (.ref r0), .val (.int y1), .val (.int y2)] [] := by first | (simp [entryFrame, mkF, argsToLocals, Value.category]; done) | rfl
theorem pn_19 : plainName "java/util/Arrays" = true := by first | (simp [plainName, overriddenIn]; done) | decide +kernel
theorem d19_0 : decode jdk_65_method_132_code 0 = .ok (.iload_n 1, 1) := by decide +kernel
theorem d19_1 : decode jdk_65_method_132_code 1 = .ok (.ifCond .ne 9, 3) := by decide +kernel
theorem d19_4 : decode jdk_65_method_132_code 4 = .ok (.iload_n 2, 1) := by decide +kernel
theorem d19_5 : decode jdk_65_method_132_code 5 = .ok (.aload_n 0, 1) := by decide +kernel
theorem d19_6 : decode jdk_65_method_132_code 6 = .ok (.arraylength, 1) := by decide +kernel
theorem d19_7 : decode jdk_65_method_132_code 7 = .ok (.if_icmp .eq 10, 3) := by decide +kernel
theorem d19_17 : decode jdk_65_method_132_code 17 = .ok (.aload_n 0, 1) := by decide +kernel
theorem d19_18 : decode jdk_65_method_132_code 18 = .ok (.invokevirtual 310, 3) := by decide +kernel
theorem d19_21 : decode jdk_65_method_132_code 21 = .ok (.checkcast 311, 3) := by decide +kernel
theorem d19_24 : decode jdk_65_method_132_code 24 = .ok (.areturn, 1) := by decide +kernel
set_option maxRecDepth 65536 in
set_option maxHeartbeats 40000000 in
theorem rm19_0_1 (l : Launch) (Z : State) (a0 : Array Value) (hw : ∀ d ∈ tables_1, d.before a0 Z = true) (r0 : Addr) (h0 : Heap) (n0 : Nat) (Z0 : n0 ≤ h0.size) (V0 : own_Arr Z h0 r0 .byte (1 : Int32) (fun j => ([99] : List Int32).getD j.toNatClampNeg 0)) (E1 : Exa Z h0 r0 "[B") :
    own_Met l Z n0 (⟨"java/util/Arrays", "copyOfRange", "([BII)[B"⟩ : MethodName) jdk_65_method_132_code 3 (some (.array .byte)) ({ frames := 1, cells := 1, slots := 1, locals := 14 } : Room) #[(.ref r0), (.int (0 : Int32)), (.int (1 : Int32))] h0 (fun v h => Keep h0 h [] ∧ ∃ t, v = some (.ref t) ∧ n0 ≤ t ∧ h0.size ≤ t) := by
  refine own_met (plainFor_of_name pn_19) ?_
  intro p e s m below meth c T0 hx hby hml hown hnm hret hlk hZ A0
  rw [ef_19]
  show own_Go _ _ _ _ (T0.setTop (mkF m 0 #[.val (.ref r0), .val (.int (0 : Int32)), .val (.int (1 : Int32))] []))
  refine own_go (fun t_ k_ => XS.iloadN A0.here hx rfl (hb hby d19_0) rfl k_) ?_
  show own_Go _ _ _ _ (T0.setTop (mkF m 1 #[.val (.ref r0), .val (.int (0 : Int32)), .val (.int (1 : Int32))] [(.int (0 : Int32))]))
  have hc1 : (0 : Int32) = (0 : Int32) := (by decide)
  refine own_go (fun t_ k_ => XS.ifNo A0.here hx rfl (hb hby d19_1) rfl ((if0 _ _).trans (teq hc1).2) k_) ?_
  show own_Go _ _ _ _ (T0.setTop (mkF m 4 #[.val (.ref r0), .val (.int (0 : Int32)), .val (.int (1 : Int32))] []))
  refine own_go (fun t_ k_ => XS.iloadN A0.here hx rfl (hb hby d19_4) rfl k_) ?_
  show own_Go _ _ _ _ (T0.setTop (mkF m 5 #[.val (.ref r0), .val (.int (0 : Int32)), .val (.int (1 : Int32))] [(.int (1 : Int32))]))
  refine own_go (fun t_ k_ => XS.aloadN A0.here hx rfl (hb hby d19_5) rfl rfl k_) ?_
  show own_Go _ _ _ _ (T0.setTop (mkF m 6 #[.val (.ref r0), .val (.int (0 : Int32)), .val (.int (1 : Int32))] [(.ref r0), (.int (1 : Int32))]))
  refine own_len A0 hx hZ V0 rfl rfl (hb hby d19_6) ?_
  show own_Go _ _ _ _ (T0.setTop (mkF m 7 #[.val (.ref r0), .val (.int (0 : Int32)), .val (.int (1 : Int32))] [(.int (1 : Int32)), (.int (1 : Int32))]))
  have hc2 : (1 : Int32) = (1 : Int32) := (by decide)
  refine own_go (fun t_ k_ => XS.icmpYes A0.here hx rfl (pc0 := 7) (pc' := 17) rfl (hb hby d19_7) rfl (teq hc2).1 (by decide) (by decide) k_) ?_
  show own_Go _ _ _ _ (T0.setTop (mkF m 17 #[.val (.ref r0), .val (.int (0 : Int32)), .val (.int (1 : Int32))] []))
  refine own_go (fun t_ k_ => XS.aloadN A0.here hx rfl (hb hby d19_17) rfl rfl k_) ?_
  show own_Go _ _ _ _ (T0.setTop (mkF m 18 #[.val (.ref r0), .val (.int (0 : Int32)), .val (.int (1 : Int32))] [(.ref r0)]))
  refine own_cloneB A0 hx hZ hown (hw _ (List.mem_of_getElem? (i := 109) rfl)) (hw _ (List.mem_of_getElem? (i := 61) rfl)) (hw _ (List.mem_of_getElem? (i := 65) rfl)) (hw _ (List.mem_of_getElem? (i := 63) rfl)) (hw _ (List.mem_of_getElem? (i := 64) rfl)) (hw _ (List.mem_of_getElem? (i := 66) rfl)) V0 E1 own_fitJ rfl (by rw [hml]; rfl) (rest := []) rfl (hb hby d19_18) (by decide) 0 (by show 2 * 0 + _ ≤ _; exact Nat.le_of_eq rfl) (by decide) 1 (by decide) (by decide) (by decide) (fun T3 h5 b6 ha_b6 A4 E7 V8 X9 => ?_)
  have ne_r0_b6 : r0 ≠ b6 := Nat.ne_of_lt (by rw [ha_b6]; exact V0.lt)
  have g_b6 : n0 ≤ b6 := by rw [ha_b6]; exact Z0
  have nw_b6 : h0.size ≤ b6 := by rw [ha_b6]; exact (Keep.refl h0 []).1
  have Z10 : n0 ≤ h5.size := Nat.le_trans Z0 E7.1
  have K11 : Keep h0 h5 [] := (Keep.refl h0 []).ext E7
  have V12 : own_Arr Z h5 r0 .byte (1 : Int32) (fun j => ([99] : List Int32).getD j.toNatClampNeg 0) := V0.ext E7
  have E13 : Exa Z h5 r0 "[B" := E1.ext E7
  show own_Go _ _ _ _ (T3.setTop (mkF m 21 #[.val (.ref r0), .val (.int (0 : Int32)), .val (.int (1 : Int32))] [(.ref b6)]))
  refine own_cast A4 hx hZ hown (hw _ (List.mem_of_getElem? (i := 110) rfl)) (Ins.of_exa X9 (hw _ (List.mem_of_getElem? (i := 68) rfl))) rfl rfl (hb hby d19_21) (fun T14 A15 => ?_)
  show own_Go _ _ _ _ (T14.setTop (mkF m 24 #[.val (.ref r0), .val (.int (0 : Int32)), .val (.int (1 : Int32))] [(.ref b6)]))
  refine own_retA A15 hx hret rfl hlk (by decide) (by decide) rfl (hb hby d19_24) ?_
  exact ⟨K11, b6, rfl, g_b6, nw_b6⟩
theorem ef_18 (m : MethodId) (r0 : Addr) (u8 : Addr) (rb : Addr) (y3 : Int32) (y4 : Int32) : entryFrame m #[(.ref r0), (.ref u8), (.ref rb), (.int y3), (.int y4)] 11 = mkF m 0 #[.val (.ref r0), .val (.ref u8), .val (.ref rb), .val (.int y3), .val (.int y4), .unset, .unset, .unset, .unset, .unset, .unset] [] := by first | (simp [entryFrame, mkF, argsToLocals, Value.category]; done) | rfl
theorem d18_0 : decode jdk_42_method_11_code 0 = .ok (.aload_n 0, 1) := by decide +kernel
theorem d18_1 : decode jdk_42_method_11_code 1 = .ok (.invokespecial 1, 3) := by decide +kernel
theorem d18_4 : decode jdk_42_method_11_code 4 = .ok (.iload 4, 2) := by decide +kernel
theorem d18_6 : decode jdk_42_method_11_code 6 = .ok (.ifCond .ne 24, 3) := by decide +kernel
theorem d18_30 : decode jdk_42_method_11_code 30 = .ok (.aload_n 1, 1) := by decide +kernel
theorem d18_31 : decode jdk_42_method_11_code 31 = .ok (.getstatic 86, 3) := by decide +kernel
theorem d18_34 : decode jdk_42_method_11_code 34 = .ok (.if_acmp .ne 312, 3) := by decide +kernel
theorem d18_37 : decode jdk_42_method_11_code 37 = .ok (.getstatic 38, 3) := by decide +kernel
theorem d18_40 : decode jdk_42_method_11_code 40 = .ok (.ifCond .eq 252, 3) := by decide +kernel
theorem d18_43 : decode jdk_42_method_11_code 43 = .ok (.aload_n 2, 1) := by decide +kernel
theorem d18_44 : decode jdk_42_method_11_code 44 = .ok (.iload_n 3, 1) := by decide +kernel
theorem d18_45 : decode jdk_42_method_11_code 45 = .ok (.iload 4, 2) := by decide +kernel
theorem d18_47 : decode jdk_42_method_11_code 47 = .ok (.invokestatic 92, 3) := by decide +kernel
theorem d18_50 : decode jdk_42_method_11_code 50 = .ok (.istore 5, 2) := by decide +kernel
theorem d18_52 : decode jdk_42_method_11_code 52 = .ok (.iload 5, 2) := by decide +kernel
theorem d18_54 : decode jdk_42_method_11_code 54 = .ok (.iload 4, 2) := by decide +kernel
theorem d18_56 : decode jdk_42_method_11_code 56 = .ok (.if_icmp .ne 22, 3) := by decide +kernel
theorem d18_59 : decode jdk_42_method_11_code 59 = .ok (.aload_n 0, 1) := by decide +kernel
theorem d18_60 : decode jdk_42_method_11_code 60 = .ok (.aload_n 2, 1) := by decide +kernel
theorem d18_61 : decode jdk_42_method_11_code 61 = .ok (.iload_n 3, 1) := by decide +kernel
theorem d18_62 : decode jdk_42_method_11_code 62 = .ok (.iload_n 3, 1) := by decide +kernel
theorem d18_63 : decode jdk_42_method_11_code 63 = .ok (.iload 4, 2) := by decide +kernel
theorem d18_65 : decode jdk_42_method_11_code 65 = .ok (.iadd, 1) := by decide +kernel
theorem d18_66 : decode jdk_42_method_11_code 66 = .ok (.invokestatic 54, 3) := by decide +kernel
theorem pd___BII__B : parseMethodDescriptor "([BII)[B" = some ⟨[(.array .byte), .int, .int], some (.array .byte)⟩ := by decide +kernel
theorem d18_69 : decode jdk_42_method_11_code 69 = .ok (.putfield 9, 3) := by decide +kernel
theorem d18_72 : decode jdk_42_method_11_code 72 = .ok (.aload_n 0, 1) := by decide +kernel
theorem d18_73 : decode jdk_42_method_11_code 73 = .ok (.iconst 0, 1) := by decide +kernel
theorem d18_74 : decode jdk_42_method_11_code 74 = .ok (.putfield 15, 3) := by decide +kernel
theorem d18_77 : decode jdk_42_method_11_code 77 = .ok (.return_, 1) := by decide +kernel
set_option maxRecDepth 65536 in
set_option maxHeartbeats 40000000 in
theorem rm18_0_1 (l : Launch) (Z : State) (a0 : Array Value) (hw : ∀ d ∈ tables_1, d.before a0 Z = true) (r0 : Addr) (u8 : Addr) (rb : Addr) (z_C : Int32) (u8 : Addr) (h0 : Heap) (n0 : Nat) (O0 : Old Z n0 h0) (Z0 : n0 ≤ h0.size) (E0 : Exa Z h0 r0 "java/lang/String") (Fv0 : Fld Z h0 r0 "java/lang/String" "value" "[B" .null) (Fc0 : Fld Z h0 r0 "java/lang/String" "coder" "B" (.int (0 : Int32))) (g0 : n0 ≤ r0) (Vb : own_Arr Z h0 rb .byte (1 : Int32) (fun j => ([99] : List Int32).getD j.toNatClampNeg 0)) (Eb : Exa Z h0 rb "[B") (ne_r0_rb : r0 ≠ rb) (hz : ¬ z_C = 0) (S_COMPACT_STRINGS : Sta Z Z.heap "java/lang/String" "COMPACT_STRINGS" "Z" (.int z_C)) (S_INSTANCE : Sta Z Z.heap "sun/nio/cs/UTF_8" "INSTANCE" "Lsun/nio/cs/UTF_8;" (.ref u8)) :
    own_MetH l Z n0 (⟨"java/lang/String", "<init>", "(Ljava/nio/charset/Charset;[BII)V"⟩ : MethodName) jdk_42_method_11_code 11 none [((800 : Nat), (813 : Nat), (816 : Nat), (202 : Nat))] ({ frames := 2, cells := 1, slots := 1, locals := 29 } : Room) #[(.ref r0), (.ref u8), (.ref rb), (.int (0 : Int32)), (.int (1 : Int32))] h0 (fun v h => v = none ∧ Keep h0 h [r0]) := by
  refine own_metH (plainFor_of_name pn_7) ?_
  intro p e s m below meth c T0 hx hby hml hown hnm hret hlk hZ A0
  rw [ef_18]
  show own_Go _ _ _ _ (T0.setTop (mkF m 0 #[.val (.ref r0), .val (.ref u8), .val (.ref rb), .val (.int (0 : Int32)), .val (.int (1 : Int32)), .unset, .unset, .unset, .unset, .unset, .unset] []))
  refine own_go (fun t_ k_ => XS.aloadN A0.here hx rfl (hb hby d18_0) rfl rfl k_) ?_
  show own_Go _ _ _ _ (T0.setTop (mkF m 1 #[.val (.ref r0), .val (.ref u8), .val (.ref rb), .val (.int (0 : Int32)), .val (.int (1 : Int32)), .unset, .unset, .unset, .unset, .unset, .unset] [(.ref r0)]))
  refine own_initO A0 hx hZ hown (hw _ (List.mem_of_getElem? (i := 103) rfl)) (hw _ (List.mem_of_getElem? (i := 28) rfl)) (hw _ (List.mem_of_getElem? (i := 29) rfl)) rfl (by rw [hml]; rfl) rfl (hb hby d18_1) (by decide) 0 (by show 2 * 0 + _ ≤ _; exact Nat.le_of_eq rfl) (by decide) (fun T1 A2 => ?_)
  show own_Go _ _ _ _ (T1.setTop (mkF m 4 #[.val (.ref r0), .val (.ref u8), .val (.ref rb), .val (.int (0 : Int32)), .val (.int (1 : Int32)), .unset, .unset, .unset, .unset, .unset, .unset] []))
  refine own_go (fun t_ k_ => XS.iload A2.here hx rfl (hb hby d18_4) rfl k_) ?_
  show own_Go _ _ _ _ (T1.setTop (mkF m 6 #[.val (.ref r0), .val (.ref u8), .val (.ref rb), .val (.int (0 : Int32)), .val (.int (1 : Int32)), .unset, .unset, .unset, .unset, .unset, .unset] [(.int (1 : Int32))]))
  have hc3 : ¬ ((1 : Int32) = (0 : Int32)) := (by decide)
  refine own_go (fun t_ k_ => XS.ifYes A2.here hx rfl (pc0 := 6) (pc' := 30) rfl (hb hby d18_6) rfl ((if0 _ _).trans (feq hc3).2) (by decide) (by decide) k_) ?_
  show own_Go _ _ _ _ (T1.setTop (mkF m 30 #[.val (.ref r0), .val (.ref u8), .val (.ref rb), .val (.int (0 : Int32)), .val (.int (1 : Int32)), .unset, .unset, .unset, .unset, .unset, .unset] []))
  refine own_go (fun t_ k_ => XS.aloadN A2.here hx rfl (hb hby d18_30) rfl rfl k_) ?_
  show own_Go _ _ _ _ (T1.setTop (mkF m 31 #[.val (.ref r0), .val (.ref u8), .val (.ref rb), .val (.int (0 : Int32)), .val (.int (1 : Int32)), .unset, .unset, .unset, .unset, .unset, .unset] [(.ref u8)]))
  refine own_getS A2 hx hZ hown (host := "") (Or.inl (hw _ (List.mem_of_getElem? (i := 48) rfl))) Via.refl (S_INSTANCE.ext O0.2) rfl (hb hby d18_31) (fun T4 A5 => ?_)
  show own_Go _ _ _ _ (T4.setTop (mkF m 34 #[.val (.ref r0), .val (.ref u8), .val (.ref rb), .val (.int (0 : Int32)), .val (.int (1 : Int32)), .unset, .unset, .unset, .unset, .unset, .unset] [(.ref u8), (.ref u8)]))
  have hc6 : u8 = u8 := rfl
  refine own_go (fun t_ k_ => XS.acmpNo A5.here hx rfl (hb hby d18_34) rfl (own_aeq hc6).2 k_) ?_
  show own_Go _ _ _ _ (T4.setTop (mkF m 37 #[.val (.ref r0), .val (.ref u8), .val (.ref rb), .val (.int (0 : Int32)), .val (.int (1 : Int32)), .unset, .unset, .unset, .unset, .unset, .unset] []))
  refine own_getS A5 hx hZ hown (host := "") (Or.inl (hw _ (List.mem_of_getElem? (i := 42) rfl))) Via.refl (S_COMPACT_STRINGS.ext O0.2) rfl (hb hby d18_37) (fun T7 A8 => ?_)
  show own_Go _ _ _ _ (T7.setTop (mkF m 40 #[.val (.ref r0), .val (.ref u8), .val (.ref rb), .val (.int (0 : Int32)), .val (.int (1 : Int32)), .unset, .unset, .unset, .unset, .unset, .unset] [(.int z_C)]))
  have hc9 : ¬ (z_C = (0 : Int32)) := hz
  refine own_go (fun t_ k_ => XS.ifNo A8.here hx rfl (hb hby d18_40) rfl ((if0 _ _).trans (feq hc9).1) k_) ?_
  show own_Go _ _ _ _ (T7.setTop (mkF m 43 #[.val (.ref r0), .val (.ref u8), .val (.ref rb), .val (.int (0 : Int32)), .val (.int (1 : Int32)), .unset, .unset, .unset, .unset, .unset, .unset] []))
  refine own_go (fun t_ k_ => XS.aloadN A8.here hx rfl (hb hby d18_43) rfl rfl k_) ?_
  show own_Go _ _ _ _ (T7.setTop (mkF m 44 #[.val (.ref r0), .val (.ref u8), .val (.ref rb), .val (.int (0 : Int32)), .val (.int (1 : Int32)), .unset, .unset, .unset, .unset, .unset, .unset] [(.ref rb)]))
  refine own_go (fun t_ k_ => XS.iloadN A8.here hx rfl (hb hby d18_44) rfl k_) ?_
  show own_Go _ _ _ _ (T7.setTop (mkF m 45 #[.val (.ref r0), .val (.ref u8), .val (.ref rb), .val (.int (0 : Int32)), .val (.int (1 : Int32)), .unset, .unset, .unset, .unset, .unset, .unset] [(.int (0 : Int32)), (.ref rb)]))
  refine own_go (fun t_ k_ => XS.iload A8.here hx rfl (hb hby d18_45) rfl k_) ?_
  show own_Go _ _ _ _ (T7.setTop (mkF m 47 #[.val (.ref r0), .val (.ref u8), .val (.ref rb), .val (.int (0 : Int32)), .val (.int (1 : Int32)), .unset, .unset, .unset, .unset, .unset, .unset] [(.int (1 : Int32)), (.int (0 : Int32)), (.ref rb)]))
  refine own_callS A8 hx hZ hown (y := (⟨"java/lang/StringCoding", "countPositives", "([BII)I"⟩ : MethodName)) (hw _ (List.mem_of_getElem? (i := 104) rfl)) (hw _ (List.mem_of_getElem? (i := 58) rfl)) (hw _ (List.mem_of_getElem? (i := 55) rfl)) (hw _ (List.mem_of_getElem? (i := 59) rfl)) (by decide) (argsL := [(.ref rb), (.int (0 : Int32)), (.int (1 : Int32))]) (rest := []) (rm11_0_1 l Z a0 hw rb h0 n0 Vb) 0 (by decide) (by decide) rfl (by rw [hml]; rfl) (lenOf pd___BII_I rfl) rfl (by show 2 * 0 + _ ≤ _; exact Nat.le_of_eq rfl) (hb hby d18_47) (by decide) (by decide) (fun v13 T10 h12 A11 hQ14 => ?_)
  obtain ⟨rfl, rfl⟩ := hQ14
  show own_Go _ _ _ _ (T10.setTop (mkF m 50 #[.val (.ref r0), .val (.ref u8), .val (.ref rb), .val (.int (0 : Int32)), .val (.int (1 : Int32)), .unset, .unset, .unset, .unset, .unset, .unset] [(.int (1 : Int32))]))
  refine own_go (fun t_ k_ => XS.istore A11.here hx rfl (hb hby d18_50) rfl (l' := #[.val (.ref r0), .val (.ref u8), .val (.ref rb), .val (.int (0 : Int32)), .val (.int (1 : Int32)), .val (.int (1 : Int32)), .unset, .unset, .unset, .unset, .unset]) rfl k_) ?_
  show own_Go _ _ _ _ (T10.setTop (mkF m 52 #[.val (.ref r0), .val (.ref u8), .val (.ref rb), .val (.int (0 : Int32)), .val (.int (1 : Int32)), .val (.int (1 : Int32)), .unset, .unset, .unset, .unset, .unset] []))
  refine own_go (fun t_ k_ => XS.iload A11.here hx rfl (hb hby d18_52) rfl k_) ?_
  show own_Go _ _ _ _ (T10.setTop (mkF m 54 #[.val (.ref r0), .val (.ref u8), .val (.ref rb), .val (.int (0 : Int32)), .val (.int (1 : Int32)), .val (.int (1 : Int32)), .unset, .unset, .unset, .unset, .unset] [(.int (1 : Int32))]))
  refine own_go (fun t_ k_ => XS.iload A11.here hx rfl (hb hby d18_54) rfl k_) ?_
  show own_Go _ _ _ _ (T10.setTop (mkF m 56 #[.val (.ref r0), .val (.ref u8), .val (.ref rb), .val (.int (0 : Int32)), .val (.int (1 : Int32)), .val (.int (1 : Int32)), .unset, .unset, .unset, .unset, .unset] [(.int (1 : Int32)), (.int (1 : Int32))]))
  have hc15 : (1 : Int32) = (1 : Int32) := (by decide)
  refine own_go (fun t_ k_ => XS.icmpNo A11.here hx rfl (hb hby d18_56) rfl (teq hc15).2 k_) ?_
  show own_Go _ _ _ _ (T10.setTop (mkF m 59 #[.val (.ref r0), .val (.ref u8), .val (.ref rb), .val (.int (0 : Int32)), .val (.int (1 : Int32)), .val (.int (1 : Int32)), .unset, .unset, .unset, .unset, .unset] []))
  refine own_go (fun t_ k_ => XS.aloadN A11.here hx rfl (hb hby d18_59) rfl rfl k_) ?_
  show own_Go _ _ _ _ (T10.setTop (mkF m 60 #[.val (.ref r0), .val (.ref u8), .val (.ref rb), .val (.int (0 : Int32)), .val (.int (1 : Int32)), .val (.int (1 : Int32)), .unset, .unset, .unset, .unset, .unset] [(.ref r0)]))
  refine own_go (fun t_ k_ => XS.aloadN A11.here hx rfl (hb hby d18_60) rfl rfl k_) ?_
  show own_Go _ _ _ _ (T10.setTop (mkF m 61 #[.val (.ref r0), .val (.ref u8), .val (.ref rb), .val (.int (0 : Int32)), .val (.int (1 : Int32)), .val (.int (1 : Int32)), .unset, .unset, .unset, .unset, .unset] [(.ref rb), (.ref r0)]))
  refine own_go (fun t_ k_ => XS.iloadN A11.here hx rfl (hb hby d18_61) rfl k_) ?_
  show own_Go _ _ _ _ (T10.setTop (mkF m 62 #[.val (.ref r0), .val (.ref u8), .val (.ref rb), .val (.int (0 : Int32)), .val (.int (1 : Int32)), .val (.int (1 : Int32)), .unset, .unset, .unset, .unset, .unset] [(.int (0 : Int32)), (.ref rb), (.ref r0)]))
  refine own_go (fun t_ k_ => XS.iloadN A11.here hx rfl (hb hby d18_62) rfl k_) ?_
  show own_Go _ _ _ _ (T10.setTop (mkF m 63 #[.val (.ref r0), .val (.ref u8), .val (.ref rb), .val (.int (0 : Int32)), .val (.int (1 : Int32)), .val (.int (1 : Int32)), .unset, .unset, .unset, .unset, .unset] [(.int (0 : Int32)), (.int (0 : Int32)), (.ref rb), (.ref r0)]))
  refine own_go (fun t_ k_ => XS.iload A11.here hx rfl (hb hby d18_63) rfl k_) ?_
  show own_Go _ _ _ _ (T10.setTop (mkF m 65 #[.val (.ref r0), .val (.ref u8), .val (.ref rb), .val (.int (0 : Int32)), .val (.int (1 : Int32)), .val (.int (1 : Int32)), .unset, .unset, .unset, .unset, .unset] [(.int (1 : Int32)), (.int (0 : Int32)), (.int (0 : Int32)), (.ref rb), (.ref r0)]))
  refine own_go (fun t_ k_ => XS.iadd A11.here hx rfl (hb hby d18_65) rfl k_) ?_
  show own_Go _ _ _ _ (T10.setTop (mkF m 66 #[.val (.ref r0), .val (.ref u8), .val (.ref rb), .val (.int (0 : Int32)), .val (.int (1 : Int32)), .val (.int (1 : Int32)), .unset, .unset, .unset, .unset, .unset] [(.int (1 : Int32)), (.int (0 : Int32)), (.ref rb), (.ref r0)]))
  refine own_callS A11 hx hZ hown (y := (⟨"java/util/Arrays", "copyOfRange", "([BII)[B"⟩ : MethodName)) (hw _ (List.mem_of_getElem? (i := 105) rfl)) (hw _ (List.mem_of_getElem? (i := 106) rfl)) (hw _ (List.mem_of_getElem? (i := 107) rfl)) (hw _ (List.mem_of_getElem? (i := 108) rfl)) (by decide) (argsL := [(.ref rb), (.int (0 : Int32)), (.int (1 : Int32))]) (rest := [(.ref r0)]) (rm19_0_1 l Z a0 hw rb h0 n0 Z0 Vb Eb) 1 (by decide) (by decide) rfl (by rw [hml]; rfl) (lenOf pd___BII__B rfl) rfl (by show 2 * 0 + _ ≤ _; exact Nat.le_of_eq rfl) (hb hby d18_66) (by decide) (by decide) (fun v19 T16 h18 A17 hQ20 => ?_)
  obtain ⟨K21, t22, rfl, gt23, nt24⟩ := hQ20
  have ne_r0_t22 : r0 ≠ t22 := Nat.ne_of_lt (Nat.lt_of_lt_of_le E0.lt nt24)
  have ne_rb_t22 : rb ≠ t22 := Nat.ne_of_lt (Nat.lt_of_lt_of_le Vb.lt nt24)
  have nw_t22 : h0.size ≤ t22 := Nat.le_trans (Keep.refl h0 [r0]).1 nt24
  have O25 : Old Z n0 h18 := O0.keep K21 all0
  have Z26 : n0 ≤ h18.size := Nat.le_trans Z0 K21.1
  have E27 : Exa Z h18 r0 "java/lang/String" := E0.keep K21
  have F28 : Fld Z h18 r0 "java/lang/String" "value" "[B" .null := Fv0.keep K21 nin0
  have F29 : Fld Z h18 r0 "java/lang/String" "coder" "B" (.int (0 : Int32)) := Fc0.keep K21 nin0
  have K30 : Keep h0 h18 [r0] := (Keep.refl h0 [r0]).trans K21 all0
  have V31 : own_Arr Z h18 rb .byte (1 : Int32) (fun j => ([99] : List Int32).getD j.toNatClampNeg 0) := Vb.keep K21 nin0
  have E32 : Exa Z h18 rb "[B" := Eb.keep K21
  show own_Go _ _ _ _ (T16.setTop (mkF m 69 #[.val (.ref r0), .val (.ref u8), .val (.ref rb), .val (.int (0 : Int32)), .val (.int (1 : Int32)), .val (.int (1 : Int32)), .unset, .unset, .unset, .unset, .unset] [(.ref t22), (.ref r0)]))
  refine own_putF A17 hx hZ hown (host := "") (Or.inl (hw _ (List.mem_of_getElem? (i := 44) rfl))) Via.refl F28 E27 (Or.inr ⟨(hw _ (List.mem_of_getElem? (i := 19) rfl)), rfl, hnm⟩) (hw _ (List.mem_of_getElem? (i := 18) rfl)) (ty := (.array .byte)) (by decide) rfl rfl g0 rfl rfl (hb hby d18_69) (fun T33 h35 A34 W36 => ?_)
  have O37 : Old Z n0 h35 := O25.wr W36 g0
  have Z38 : n0 ≤ h35.size := Nat.le_trans Z26 (Nat.le_of_eq (Wr.size W36).symm)
  have E39 : Exa Z h35 r0 "java/lang/String" := E27.wr W36
  have F40 : Fld Z h35 r0 "java/lang/String" "value" "[B" (.ref t22) := F28.same W36
  have F41 : Fld Z h35 r0 "java/lang/String" "coder" "B" (.int (0 : Int32)) := F29.other W36 (Or.inr (slot_ne (Or.inr (hw _ (List.mem_of_getElem? (i := 20) rfl))) (Or.inr (hw _ (List.mem_of_getElem? (i := 19) rfl))) (by decide) (t := .byte) (t' := (.array .byte)) (by decide) (by decide)))
  have K42 : Keep h0 h35 [r0] := K30.wr W36 (Or.inl (List.mem_of_getElem? (i := 0) rfl))
  have V43 : own_Arr Z h35 rb .byte (1 : Int32) (fun j => ([99] : List Int32).getD j.toNatClampNeg 0) := V31.other W36 (Ne.symm ne_r0_rb)
  have E44 : Exa Z h35 rb "[B" := E32.wr W36
  show own_Go _ _ _ _ (T33.setTop (mkF m 72 #[.val (.ref r0), .val (.ref u8), .val (.ref rb), .val (.int (0 : Int32)), .val (.int (1 : Int32)), .val (.int (1 : Int32)), .unset, .unset, .unset, .unset, .unset] []))
  refine own_go (fun t_ k_ => XS.aloadN A34.here hx rfl (hb hby d18_72) rfl rfl k_) ?_
  show own_Go _ _ _ _ (T33.setTop (mkF m 73 #[.val (.ref r0), .val (.ref u8), .val (.ref rb), .val (.int (0 : Int32)), .val (.int (1 : Int32)), .val (.int (1 : Int32)), .unset, .unset, .unset, .unset, .unset] [(.ref r0)]))
  refine own_go (fun t_ k_ => XS.iconst A34.here hx rfl (hb hby d18_73) k_) ?_
  show own_Go _ _ _ _ (T33.setTop (mkF m 74 #[.val (.ref r0), .val (.ref u8), .val (.ref rb), .val (.int (0 : Int32)), .val (.int (1 : Int32)), .val (.int (1 : Int32)), .unset, .unset, .unset, .unset, .unset] [(.int (0 : Int32)), (.ref r0)]))
  refine own_putF A34 hx hZ hown (host := "") (Or.inl (hw _ (List.mem_of_getElem? (i := 43) rfl))) Via.refl F41 E39 (Or.inr ⟨(hw _ (List.mem_of_getElem? (i := 20) rfl)), rfl, hnm⟩) (hw _ (List.mem_of_getElem? (i := 18) rfl)) (ty := .byte) (by decide) rfl rfl g0 rfl rfl (hb hby d18_74) (fun T45 h47 A46 W48 => ?_)
  have O49 : Old Z n0 h47 := O37.wr W48 g0
  have Z50 : n0 ≤ h47.size := Nat.le_trans Z38 (Nat.le_of_eq (Wr.size W48).symm)
  have E51 : Exa Z h47 r0 "java/lang/String" := E39.wr W48
  have F52 : Fld Z h47 r0 "java/lang/String" "value" "[B" (.ref t22) := F40.other W48 (Or.inr (slot_ne (Or.inr (hw _ (List.mem_of_getElem? (i := 19) rfl))) (Or.inr (hw _ (List.mem_of_getElem? (i := 20) rfl))) (by decide) (t := (.array .byte)) (t' := .byte) (by decide) (by decide)))
  have F53 : Fld Z h47 r0 "java/lang/String" "coder" "B" (.int (0 : Int32)) := F41.same W48
  have K54 : Keep h0 h47 [r0] := K42.wr W48 (Or.inl (List.mem_of_getElem? (i := 0) rfl))
  have V55 : own_Arr Z h47 rb .byte (1 : Int32) (fun j => ([99] : List Int32).getD j.toNatClampNeg 0) := V43.other W48 (Ne.symm ne_r0_rb)
  have E56 : Exa Z h47 rb "[B" := E44.wr W48
  show own_Go _ _ _ _ (T45.setTop (mkF m 77 #[.val (.ref r0), .val (.ref u8), .val (.ref rb), .val (.int (0 : Int32)), .val (.int (1 : Int32)), .val (.int (1 : Int32)), .unset, .unset, .unset, .unset, .unset] []))
  refine own_retV A46 hx hret hlk (by decide) (by decide) (hb hby d18_77) ?_
  exact ⟨rfl, K54⟩
theorem ef_14 (m : MethodId) (r0 : Addr) (rb : Addr) (y2 : Int32) (y3 : Int32) (u8 : Addr) : entryFrame m #[(.ref r0), (.ref rb), (.int y2), (.int y3), (.ref u8)] 5 = mkF m 0 #[.val (.ref r0), .val (.ref rb), .val (.int y2), .val (.int y3), .val (.ref u8)] [] := by first | (simp [entryFrame, mkF, argsToLocals, Value.category]; done) | rfl
theorem d14_0 : decode jdk_42_method_10_code 0 = .ok (.aload_n 0, 1) := by decide +kernel
theorem d14_1 : decode jdk_42_method_10_code 1 = .ok (.aload 4, 2) := by decide +kernel
theorem d14_3 : decode jdk_42_method_10_code 3 = .ok (.invokestatic 78, 3) := by decide +kernel
theorem pd__Ljava_lang_Object__Ljava_lang_Object_ : parseMethodDescriptor "(Ljava/lang/Object;)Ljava/lang/Object;" = some ⟨[(.object "java/lang/Object")], some (.object "java/lang/Object")⟩ := by decide +kernel
theorem d14_6 : decode jdk_42_method_10_code 6 = .ok (.checkcast 84, 3) := by decide +kernel
theorem d14_9 : decode jdk_42_method_10_code 9 = .ok (.aload_n 1, 1) := by decide +kernel
theorem d14_10 : decode jdk_42_method_10_code 10 = .ok (.iload_n 2, 1) := by decide +kernel
theorem d14_11 : decode jdk_42_method_10_code 11 = .ok (.iload_n 3, 1) := by decide +kernel
theorem d14_12 : decode jdk_42_method_10_code 12 = .ok (.aload_n 1, 1) := by decide +kernel
theorem d14_13 : decode jdk_42_method_10_code 13 = .ok (.arraylength, 1) := by decide +kernel
theorem d14_14 : decode jdk_42_method_10_code 14 = .ok (.invokestatic 34, 3) := by decide +kernel
theorem pd__III_I : parseMethodDescriptor "(III)I" = some ⟨[.int, .int, .int], some .int⟩ := by decide +kernel
theorem d14_17 : decode jdk_42_method_10_code 17 = .ok (.iload_n 3, 1) := by decide +kernel
theorem d14_18 : decode jdk_42_method_10_code 18 = .ok (.invokespecial 75, 3) := by decide +kernel
theorem pd__Ljava_nio_charset_Charset__BII_V : parseMethodDescriptor "(Ljava/nio/charset/Charset;[BII)V" = some ⟨[(.object "java/nio/charset/Charset"), (.array .byte), .int, .int], none⟩ := by decide +kernel
theorem d14_21 : decode jdk_42_method_10_code 21 = .ok (.return_, 1) := by decide +kernel
set_option maxRecDepth 65536 in
set_option maxHeartbeats 40000000 in
theorem rm14_0_1 (l : Launch) (Z : State) (a0 : Array Value) (hw : ∀ d ∈ tables_1, d.before a0 Z = true) (r0 : Addr) (rb : Addr) (u8 : Addr) (z_C : Int32) (s_F : Value) (h0 : Heap) (n0 : Nat) (O0 : Old Z n0 h0) (Z0 : n0 ≤ h0.size) (E0 : Exa Z h0 r0 "java/lang/String") (Fv0 : Fld Z h0 r0 "java/lang/String" "value" "[B" .null) (Fc0 : Fld Z h0 r0 "java/lang/String" "coder" "B" (.int (0 : Int32))) (g0 : n0 ≤ r0) (Vb : own_Arr Z h0 rb .byte (1 : Int32) (fun j => ([99] : List Int32).getD j.toNatClampNeg 0)) (Eb : Exa Z h0 rb "[B") (ne_r0_rb : r0 ≠ rb) (hz : ¬ z_C = 0) (hr_F : s_F.isRef = true) (EU8 : Exa Z Z.heap u8 "sun/nio/cs/UTF_8") (S_COMPACT_STRINGS : Sta Z Z.heap "java/lang/String" "COMPACT_STRINGS" "Z" (.int z_C)) (S_INSTANCE : Sta Z Z.heap "sun/nio/cs/UTF_8" "INSTANCE" "Lsun/nio/cs/UTF_8;" (.ref u8)) (S_SIOOBE_FORMATTER : Sta Z Z.heap "jdk/internal/util/Preconditions" "SIOOBE_FORMATTER" "Ljava/util/function/BiFunction;" s_F) :
    own_Met l Z n0 (⟨"java/lang/String", "<init>", "([BIILjava/nio/charset/Charset;)V"⟩ : MethodName) jdk_42_method_10_code 5 none ({ frames := 3, cells := 1, slots := 1, locals := 51 } : Room) #[(.ref r0), (.ref rb), (.int (0 : Int32)), (.int (1 : Int32)), (.ref u8)] h0 (fun v h => v = none ∧ Keep h0 h [r0]) := by
  refine own_met (plainFor_of_name pn_7) ?_
  intro p e s m below meth c T0 hx hby hml hown hnm hret hlk hZ A0
  rw [ef_14]
  show own_Go _ _ _ _ (T0.setTop (mkF m 0 #[.val (.ref r0), .val (.ref rb), .val (.int (0 : Int32)), .val (.int (1 : Int32)), .val (.ref u8)] []))
  refine own_go (fun t_ k_ => XS.aloadN A0.here hx rfl (hb hby d14_0) rfl rfl k_) ?_
  show own_Go _ _ _ _ (T0.setTop (mkF m 1 #[.val (.ref r0), .val (.ref rb), .val (.int (0 : Int32)), .val (.int (1 : Int32)), .val (.ref u8)] [(.ref r0)]))
  refine own_go (fun t_ k_ => XS.aload A0.here hx rfl (hb hby d14_1) rfl rfl k_) ?_
  show own_Go _ _ _ _ (T0.setTop (mkF m 3 #[.val (.ref r0), .val (.ref rb), .val (.int (0 : Int32)), .val (.int (1 : Int32)), .val (.ref u8)] [(.ref u8), (.ref r0)]))
  refine own_callS A0 hx hZ hown (y := (⟨"java/util/Objects", "requireNonNull", "(Ljava/lang/Object;)Ljava/lang/Object;"⟩ : MethodName)) (hw _ (List.mem_of_getElem? (i := 85) rfl)) (hw _ (List.mem_of_getElem? (i := 86) rfl)) (hw _ (List.mem_of_getElem? (i := 87) rfl)) (hw _ (List.mem_of_getElem? (i := 88) rfl)) (by decide) (argsL := [(.ref u8)]) (rest := [(.ref r0)]) (rm15 l Z a0 hw u8 h0 n0 ) 1 (by decide) (by decide) rfl (by rw [hml]; rfl) (lenOf pd__Ljava_lang_Object__Ljava_lang_Object_ rfl) rfl (by show 2 * 0 + _ ≤ _; exact Nat.le_of_eq rfl) (hb hby d14_3) (by decide) (by decide) (fun v4 T1 h3 A2 hQ5 => ?_)
  obtain ⟨rfl, rfl⟩ := hQ5
  show own_Go _ _ _ _ (T1.setTop (mkF m 6 #[.val (.ref r0), .val (.ref rb), .val (.int (0 : Int32)), .val (.int (1 : Int32)), .val (.ref u8)] [(.ref u8), (.ref r0)]))
  refine own_cast A2 hx hZ hown (hw _ (List.mem_of_getElem? (i := 89) rfl)) (Ins.of_exa (EU8.ext O0.2) (hw _ (List.mem_of_getElem? (i := 90) rfl))) rfl rfl (hb hby d14_6) (fun T6 A7 => ?_)
  show own_Go _ _ _ _ (T6.setTop (mkF m 9 #[.val (.ref r0), .val (.ref rb), .val (.int (0 : Int32)), .val (.int (1 : Int32)), .val (.ref u8)] [(.ref u8), (.ref r0)]))
  refine own_go (fun t_ k_ => XS.aloadN A7.here hx rfl (hb hby d14_9) rfl rfl k_) ?_
  show own_Go _ _ _ _ (T6.setTop (mkF m 10 #[.val (.ref r0), .val (.ref rb), .val (.int (0 : Int32)), .val (.int (1 : Int32)), .val (.ref u8)] [(.ref rb), (.ref u8), (.ref r0)]))
  refine own_go (fun t_ k_ => XS.iloadN A7.here hx rfl (hb hby d14_10) rfl k_) ?_
  show own_Go _ _ _ _ (T6.setTop (mkF m 11 #[.val (.ref r0), .val (.ref rb), .val (.int (0 : Int32)), .val (.int (1 : Int32)), .val (.ref u8)] [(.int (0 : Int32)), (.ref rb), (.ref u8), (.ref r0)]))
  refine own_go (fun t_ k_ => XS.iloadN A7.here hx rfl (hb hby d14_11) rfl k_) ?_
  show own_Go _ _ _ _ (T6.setTop (mkF m 12 #[.val (.ref r0), .val (.ref rb), .val (.int (0 : Int32)), .val (.int (1 : Int32)), .val (.ref u8)] [(.int (1 : Int32)), (.int (0 : Int32)), (.ref rb), (.ref u8), (.ref r0)]))
  refine own_go (fun t_ k_ => XS.aloadN A7.here hx rfl (hb hby d14_12) rfl rfl k_) ?_
  show own_Go _ _ _ _ (T6.setTop (mkF m 13 #[.val (.ref r0), .val (.ref rb), .val (.int (0 : Int32)), .val (.int (1 : Int32)), .val (.ref u8)] [(.ref rb), (.int (1 : Int32)), (.int (0 : Int32)), (.ref rb), (.ref u8), (.ref r0)]))
  refine own_len A7 hx hZ Vb rfl rfl (hb hby d14_13) ?_
  show own_Go _ _ _ _ (T6.setTop (mkF m 14 #[.val (.ref r0), .val (.ref rb), .val (.int (0 : Int32)), .val (.int (1 : Int32)), .val (.ref u8)] [(.int (1 : Int32)), (.int (1 : Int32)), (.int (0 : Int32)), (.ref rb), (.ref u8), (.ref r0)]))
  refine own_callS A7 hx hZ hown (y := (⟨"java/lang/String", "checkBoundsOffCount", "(III)I"⟩ : MethodName)) (hw _ (List.mem_of_getElem? (i := 91) rfl)) (hw _ (List.mem_of_getElem? (i := 92) rfl)) (hw _ (List.mem_of_getElem? (i := 17) rfl)) (hw _ (List.mem_of_getElem? (i := 93) rfl)) (by decide) (argsL := [(.int (0 : Int32)), (.int (1 : Int32)), (.int (1 : Int32))]) (rest := [(.ref rb), (.ref u8), (.ref r0)]) (rm16 l Z a0 hw (0 : Int32) (1 : Int32) (1 : Int32) s_F h0 n0 O0 (by decide) (by decide) hr_F S_SIOOBE_FORMATTER) 3 (by decide) (by decide) rfl (by rw [hml]; rfl) (lenOf pd__III_I rfl) rfl (by show 2 * 0 + _ ≤ _; exact Nat.le_of_eq rfl) (hb hby d14_14) (by decide) (by decide) (fun v11 T8 h10 A9 hQ12 => ?_)
  obtain ⟨rfl, rfl⟩ := hQ12
  show own_Go _ _ _ _ (T8.setTop (mkF m 17 #[.val (.ref r0), .val (.ref rb), .val (.int (0 : Int32)), .val (.int (1 : Int32)), .val (.ref u8)] [(.int (0 : Int32)), (.ref rb), (.ref u8), (.ref r0)]))
  refine own_go (fun t_ k_ => XS.iloadN A9.here hx rfl (hb hby d14_17) rfl k_) ?_
  show own_Go _ _ _ _ (T8.setTop (mkF m 18 #[.val (.ref r0), .val (.ref rb), .val (.int (0 : Int32)), .val (.int (1 : Int32)), .val (.ref u8)] [(.int (1 : Int32)), (.int (0 : Int32)), (.ref rb), (.ref u8), (.ref r0)]))
  refine own_callIH A9 hx hZ (y := (⟨"java/lang/String", "<init>", "(Ljava/nio/charset/Charset;[BII)V"⟩ : MethodName)) rfl hown (hw _ (List.mem_of_getElem? (i := 99) rfl)) (hw _ (List.mem_of_getElem? (i := 100) rfl)) (hw _ (List.mem_of_getElem? (i := 17) rfl)) (hw _ (List.mem_of_getElem? (i := 102) rfl)) (by decide) (b := r0) (argsL := [(.ref u8), (.ref rb), (.int (0 : Int32)), (.int (1 : Int32))]) (rest := []) (rm18_0_1 l Z a0 hw r0 u8 rb z_C u8 h0 n0 O0 Z0 E0 Fv0 Fc0 g0 Vb Eb ne_r0_rb hz S_COMPACT_STRINGS S_INSTANCE) 0 (by decide) (by decide) rfl (by rw [hml]; rfl) (lenOf pd__Ljava_nio_charset_Charset__BII_V rfl) rfl (by show 2 * 0 + _ ≤ _; exact Nat.le_of_eq rfl) (hb hby d14_18) (by decide) (by decide) (fun v16 T13 h15 A14 hQ17 => ?_)
  obtain ⟨rfl, K18⟩ := hQ17
  have O19 : Old Z n0 h15 := O0.keep K18 (allS g0 all0)
  have Z20 : n0 ≤ h15.size := Nat.le_trans Z0 K18.1
  have E21 : Exa Z h15 r0 "java/lang/String" := E0.keep K18
  have K22 : Keep h0 h15 [r0] := (Keep.refl h0 [r0]).trans K18 (allS (Or.inl (List.mem_of_getElem? (i := 0) rfl)) all0)
  have V23 : own_Arr Z h15 rb .byte (1 : Int32) (fun j => ([99] : List Int32).getD j.toNatClampNeg 0) := Vb.keep K18 (ninS (Ne.symm ne_r0_rb) nin0)
  have E24 : Exa Z h15 rb "[B" := Eb.keep K18
  show own_Go _ _ _ _ (T13.setTop (mkF m 21 #[.val (.ref r0), .val (.ref rb), .val (.int (0 : Int32)), .val (.int (1 : Int32)), .val (.ref u8)] []))
  refine own_retV A14 hx hret hlk (by decide) (by decide) (hb hby d14_21) ?_
  exact ⟨rfl, K22⟩
theorem ef_13 (m : MethodId) (p0 : Int32) : entryFrame m #[(.int p0)] 1 = mkF m 0 #[.val (.int p0)] [] := by first | (simp [entryFrame, mkF, argsToLocals, Value.category]; done) | rfl
theorem pn_13 : plainName "com/example/indexloom/indexloom/data/DataHeader" = true := by first | (simp [plainName, overriddenIn]; done) | decide +kernel
theorem d13_0 : decode prog_13_method_12_code 0 = .ok (.iload_n 0, 1) := by decide +kernel
theorem d13_1 : decode prog_13_method_12_code 1 = .ok (.bipush 32, 2) := by decide +kernel
theorem d13_3 : decode prog_13_method_12_code 3 = .ok (.if_icmp .eq 15, 3) := by decide +kernel
theorem d13_18 : decode prog_13_method_12_code 18 = .ok (.iconst 1, 1) := by decide +kernel
theorem d13_19 : decode prog_13_method_12_code 19 = .ok (.goto 4, 3) := by decide +kernel
theorem d13_6 : decode prog_13_method_12_code 6 = .ok (.iload_n 0, 1) := by decide +kernel
theorem d13_7 : decode prog_13_method_12_code 7 = .ok (.bipush 9, 2) := by decide +kernel
theorem d13_9 : decode prog_13_method_12_code 9 = .ok (.if_icmp .eq 9, 3) := by decide +kernel
theorem d13_12 : decode prog_13_method_12_code 12 = .ok (.iload_n 0, 1) := by decide +kernel
theorem d13_13 : decode prog_13_method_12_code 13 = .ok (.bipush 13, 2) := by decide +kernel
theorem d13_15 : decode prog_13_method_12_code 15 = .ok (.if_icmp .ne 7, 3) := by decide +kernel
theorem d13_22 : decode prog_13_method_12_code 22 = .ok (.iconst 0, 1) := by decide +kernel
theorem d13_23 : decode prog_13_method_12_code 23 = .ok (.ireturn, 1) := by decide +kernel
def f13 (p0 : Int32) : Int32 := (nar .boolean (if p0 = (32 : Int32) then (1 : Int32) else (if p0 = (9 : Int32) then (1 : Int32) else (if p0 = (13 : Int32) then (1 : Int32) else (0 : Int32)))))
set_option maxRecDepth 65536 in
set_option maxHeartbeats 40000000 in
theorem rm13 (l : Launch) (Z : State) (a0 : Array Value) (hw : ∀ d ∈ tables_1, d.before a0 Z = true) (p0 : Int32) (h0 : Heap) (n0 : Nat) :
    own_Met l Z n0 (⟨"com/example/indexloom/indexloom/data/DataHeader", "isBlank", "(B)Z"⟩ : MethodName) prog_13_method_12_code 1 (some .boolean) ({ frames := 0, cells := 0, slots := 0, locals := 0 } : Room) #[(.int p0)] h0 (fun v h => v = some (.int (f13 p0)) ∧ h0 = h) := by
  refine own_met (plainFor_of_name pn_13) ?_
  intro p e s m below meth c T0 hx hby hml hown hnm hret hlk hZ A0
  rw [ef_13]
  show own_Go _ _ _ _ (T0.setTop (mkF m 0 #[.val (.int p0)] []))
  refine own_go (fun t_ k_ => XS.iloadN A0.here hx rfl (hb hby d13_0) rfl k_) ?_
  show own_Go _ _ _ _ (T0.setTop (mkF m 1 #[.val (.int p0)] [(.int p0)]))
  refine own_go (fun t_ k_ => XS.bipush A0.here hx rfl (hb hby d13_1) k_) ?_
  show own_Go _ _ _ _ (T0.setTop (mkF m 3 #[.val (.int p0)] [(.int (32 : Int32)), (.int p0)]))
  have mg1 : ∀ t_, Steps p.tables e below (T0.setTop (mkF m 23 #[.val (.int p0)] [(.int (if p0 = (32 : Int32) then (1 : Int32) else (if p0 = (9 : Int32) then (1 : Int32) else (if p0 = (13 : Int32) then (1 : Int32) else (0 : Int32)))))])) t_ → Steps p.tables e below (T0.setTop (mkF m 3 #[.val (.int p0)] [(.int (32 : Int32)), (.int p0)])) t_ := by
    intro t_ k_
    by_cases hm3_0 : p0 = (32 : Int32)
    ·
      simp only [if_pos hm3_0] at k_
      exact (XS.icmpYes A0.here hx rfl (pc0 := 3) (pc' := 18) rfl (hb hby d13_3) rfl (teq hm3_0).1 (by decide) (by decide) (XS.iconst A0.here hx rfl (hb hby d13_18) (XS.goto A0.here hx rfl (pc0 := 19) (pc' := 23) rfl (hb hby d13_19) (by decide) (by decide) k_)))
    ·
      refine XS.icmpNo A0.here hx rfl (hb hby d13_3) rfl (feq hm3_0).1 (XS.iloadN A0.here hx rfl (hb hby d13_6) rfl (XS.bipush A0.here hx rfl (hb hby d13_7) ?_))
      by_cases hm9_1 : p0 = (9 : Int32)
      ·
        simp only [if_neg hm3_0, if_pos hm9_1] at k_
        exact (XS.icmpYes A0.here hx rfl (pc0 := 9) (pc' := 18) rfl (hb hby d13_9) rfl (teq hm9_1).1 (by decide) (by decide) (XS.iconst A0.here hx rfl (hb hby d13_18) (XS.goto A0.here hx rfl (pc0 := 19) (pc' := 23) rfl (hb hby d13_19) (by decide) (by decide) k_)))
      ·
        refine XS.icmpNo A0.here hx rfl (hb hby d13_9) rfl (feq hm9_1).1 (XS.iloadN A0.here hx rfl (hb hby d13_12) rfl (XS.bipush A0.here hx rfl (hb hby d13_13) ?_))
        by_cases hm15_2 : p0 = (13 : Int32)
        ·
          simp only [if_neg hm3_0, if_neg hm9_1, if_pos hm15_2] at k_
          exact (XS.icmpNo A0.here hx rfl (hb hby d13_15) rfl (teq hm15_2).2 (XS.iconst A0.here hx rfl (hb hby d13_18) (XS.goto A0.here hx rfl (pc0 := 19) (pc' := 23) rfl (hb hby d13_19) (by decide) (by decide) k_)))
        ·
          simp only [if_neg hm3_0, if_neg hm9_1, if_neg hm15_2] at k_
          exact (XS.icmpYes A0.here hx rfl (pc0 := 15) (pc' := 22) rfl (hb hby d13_15) rfl (feq hm15_2).2 (by decide) (by decide) (XS.iconst A0.here hx rfl (hb hby d13_22) k_))
  refine own_go mg1 ?_
  show own_Go _ _ _ _ (T0.setTop (mkF m 23 #[.val (.int p0)] [(.int (if p0 = (32 : Int32) then (1 : Int32) else (if p0 = (9 : Int32) then (1 : Int32) else (if p0 = (13 : Int32) then (1 : Int32) else (0 : Int32)))))]))
  generalize hx2 : (if p0 = (32 : Int32) then (1 : Int32) else (if p0 = (9 : Int32) then (1 : Int32) else (if p0 = (13 : Int32) then (1 : Int32) else (0 : Int32)))) = x2
  show own_Go _ _ _ _ (T0.setTop (mkF m 23 #[.val (.int p0)] [(.int x2)]))
  refine own_retN A0 hx (t := .boolean) hret (by simp) hlk (by decide) (by decide) (hb hby d13_23) ?_
  subst hx2
  exact ⟨rfl, rfl⟩
def own_end (cm : Nat → Bool) (t : Nat) : Nat → Nat → Nat
  | 0, i => i
  | k + 1, i => if cm i = true then i else own_end cm t k (i + 1)
def own_first (bl : Nat → Bool) : Nat → Nat → Nat
  | 0, i => i
  | k + 1, i => if bl i = true then own_first bl k (i + 1) else i
def own_last (bl : Nat → Bool) (fi : Nat) : Nat → Nat
  | 0 => fi
  | k + 1 => if bl (fi + k) = true then own_last bl fi k else fi + k + 1
/-- the fields of the bytes from st to t: of each the first place and the one behind the last -/
def own_fields (cm bl : Nat → Bool) (t : Nat) : Nat → Nat → List (Nat × Nat)
  | 0, _ => []
  | k + 1, st => (own_first bl (own_end cm t (t - st) st - st) st, own_last bl (own_first bl (own_end cm t (t - st) st - st) st) (own_end cm t (t - st) st - own_first bl (own_end cm t (t - st) st - st) st)) :: (if own_end cm t (t - st) st < t then own_fields cm bl t k (own_end cm t (t - st) st + 1) else [])
theorem own_end_le {cm : Nat → Bool} {t : Nat} : ∀ (k i : Nat), t - i = k → i ≤ t → i ≤ own_end cm t k i ∧ own_end cm t k i ≤ t := by
  intro k
  induction k with
  | zero => intro i h1 h2; exact ⟨Nat.le_refl _, h2⟩
  | succ k ih =>
    intro i h1 h2
    unfold own_end
    split
    · omega
    · have := ih (i + 1) (by omega) (by omega); omega
theorem own_first_le {bl : Nat → Bool} : ∀ (k i : Nat), i ≤ own_first bl k i ∧ own_first bl k i ≤ i + k := by
  intro k
  induction k with
  | zero => intro i; exact ⟨Nat.le_refl _, Nat.le_refl _⟩
  | succ k ih =>
    intro i
    unfold own_first
    split
    · have := ih (i + 1); omega
    · omega
theorem own_last_le {bl : Nat → Bool} {fi : Nat} : ∀ (k : Nat), fi ≤ own_last bl fi k ∧ own_last bl fi k ≤ fi + k := by
  intro k
  induction k with
  | zero => exact ⟨Nat.le_refl _, Nat.le_refl _⟩
  | succ k ih =>
    unfold own_last
    split
    · omega
    · omega
/-- the bounds' places 2 j and 2 j + 1 hold the j-th field, where there is one, else what they held -/
def own_Bd (q : Nat) (fs : List (Nat × Nat)) (fl c : Int32 → Int32) : Prop :=
  ∀ j, j < q → c (Int32.ofNat (2 * j)) = (if j < fs.length then Int32.ofNat (fs.getD j (0, 0)).1 else fl (Int32.ofNat (2 * j))) ∧ c (Int32.ofNat (2 * j + 1)) = (if j < fs.length then Int32.ofNat (fs.getD j (0, 0)).2 else fl (Int32.ofNat (2 * j + 1)))
theorem own_Bd.full {q : Nat} {fs : List (Nat × Nat)} {fl c : Int32 → Int32} (h : own_Bd q fs fl c) (hq : q ≤ fs.length) (x : Nat × Nat) : own_Bd q (fs ++ [x]) fl c := by
  intro j hj
  have h1 := h j hj
  have e : (fs ++ [x]).getD j (0, 0) = fs.getD j (0, 0) := by
    rw [List.getD_eq_getElem?_getD, List.getD_eq_getElem?_getD, List.getElem?_append_left (by omega)]
  rw [e, List.length_append, List.length_singleton, if_pos (show j < fs.length + 1 by omega), if_pos (show j < fs.length + 1 by omega)]
  rw [if_pos (show j < fs.length by omega), if_pos (show j < fs.length by omega)] at h1
  exact h1
theorem own_Bd.put {q : Nat} {fs : List (Nat × Nat)} {fl c : Int32 → Int32} (h : own_Bd q fs fl c) (hq : fs.length < q) (hb : 2 * q < 2 ^ 31) (a b : Nat) :
    own_Bd q (fs ++ [(a, b)]) fl (fun i => if i = Int32.ofNat (2 * fs.length) + (1 : Int32) then Int32.ofNat b else (fun i => if i = Int32.ofNat (2 * fs.length) then Int32.ofNat a else c i) i) := by
  intro j hj
  have h1 := h j hj
  simp only [own_succ, own_neq (show 2 * j < 2 ^ 31 by omega) (show 2 * fs.length + 1 < 2 ^ 31 by omega), own_neq (show 2 * j + 1 < 2 ^ 31 by omega) (show 2 * fs.length + 1 < 2 ^ 31 by omega), own_neq (show 2 * j < 2 ^ 31 by omega) (show 2 * fs.length < 2 ^ 31 by omega), own_neq (show 2 * j + 1 < 2 ^ 31 by omega) (show 2 * fs.length < 2 ^ 31 by omega)]
  rw [List.length_append, List.length_singleton]
  rcases Nat.lt_trichotomy j fs.length with hl | he | hg
  · have e : (fs ++ [(a, b)]).getD j (0, 0) = fs.getD j (0, 0) := by
      rw [List.getD_eq_getElem?_getD, List.getD_eq_getElem?_getD, List.getElem?_append_left hl]
    rw [if_pos hl, if_pos hl] at h1
    rw [e, if_neg (show ¬ 2 * j = 2 * fs.length + 1 by omega), if_neg (show ¬ 2 * j = 2 * fs.length by omega), if_neg (show ¬ 2 * j + 1 = 2 * fs.length + 1 by omega), if_neg (show ¬ 2 * j + 1 = 2 * fs.length by omega), if_pos (show j < fs.length + 1 by omega), if_pos (show j < fs.length + 1 by omega)]
    exact h1
  · have e : (fs ++ [(a, b)]).getD j (0, 0) = (a, b) := by
      rw [List.getD_eq_getElem?_getD, List.getElem?_append_right (by omega)]
      have : j - fs.length = 0 := by omega
      rw [this]
      rfl
    rw [e, if_neg (show ¬ 2 * j = 2 * fs.length + 1 by omega), if_pos (show 2 * j = 2 * fs.length by omega), if_pos (show 2 * j + 1 = 2 * fs.length + 1 by omega), if_pos (show j < fs.length + 1 by omega), if_pos (show j < fs.length + 1 by omega)]
    exact ⟨rfl, rfl⟩
  · rw [if_neg (show ¬ j < fs.length by omega), if_neg (show ¬ j < fs.length by omega)] at h1
    rw [if_neg (show ¬ 2 * j = 2 * fs.length + 1 by omega), if_neg (show ¬ 2 * j = 2 * fs.length by omega), if_neg (show ¬ 2 * j + 1 = 2 * fs.length + 1 by omega), if_neg (show ¬ 2 * j + 1 = 2 * fs.length by omega), if_neg (show ¬ j < fs.length + 1 by omega), if_neg (show ¬ j < fs.length + 1 by omega)]
    exact h1
theorem own_blank (b : Int32) : f13 b = (if b = 32 ∨ b = 9 ∨ b = 13 then 1 else 0) := by
  unfold f13
  by_cases h1 : b = 32
  · rw [if_pos h1, if_pos (Or.inl h1)]; rfl
  · by_cases h2 : b = 9
    · rw [if_neg h1, if_pos h2, if_pos (Or.inr (Or.inl h2))]; rfl
    · by_cases h3 : b = 13
      · rw [if_neg h1, if_neg h2, if_pos h3, if_pos (Or.inr (Or.inr h3))]; rfl
      · rw [if_neg h1, if_neg h2, if_neg h3, if_neg (by simp [h1, h2, h3])]; rfl
/-- which bytes are commas, which are blank -/
def own_Cls (cm bl : Nat → Bool) (t : Nat) (fb : Int32 → Int32) : Prop := ∀ i, i < t → (fb (Int32.ofNat i) = 44 ↔ cm i = true) ∧ ((fb (Int32.ofNat i) = 32 ∨ fb (Int32.ofNat i) = 9 ∨ fb (Int32.ofNat i) = 13) ↔ bl i = true)
theorem own_blank0 (b : Int32) : f13 b = 0 ↔ ¬ (b = 32 ∨ b = 9 ∨ b = 13) := by
  rw [own_blank]
  by_cases h : b = 32 ∨ b = 9 ∨ b = 13
  · rw [if_pos h]
    exact ⟨fun q => absurd q (by decide), fun q => absurd h q⟩
  · rw [if_neg h]
    exact ⟨fun _ => h, fun _ => rfl⟩
theorem d12_18 : decode prog_13_method_11_code 18 = .ok (.iload 7, 2) := by decide +kernel
theorem d12_20 : decode prog_13_method_11_code 20 = .ok (.iload_n 2, 1) := by decide +kernel
theorem d12_21 : decode prog_13_method_11_code 21 = .ok (.if_icmp .ge 18, 3) := by decide +kernel
theorem d12_24 : decode prog_13_method_11_code 24 = .ok (.aload_n 0, 1) := by decide +kernel
theorem d12_25 : decode prog_13_method_11_code 25 = .ok (.iload 7, 2) := by decide +kernel
theorem d12_27 : decode prog_13_method_11_code 27 = .ok (.baload, 1) := by decide +kernel
theorem d12_28 : decode prog_13_method_11_code 28 = .ok (.bipush 44, 2) := by decide +kernel
theorem d12_30 : decode prog_13_method_11_code 30 = .ok (.if_icmp .eq 9, 3) := by decide +kernel
theorem d12_33 : decode prog_13_method_11_code 33 = .ok (.iinc 7 1, 3) := by decide +kernel
theorem d12_36 : decode prog_13_method_11_code 36 = .ok (.goto (-18), 3) := by decide +kernel
set_option maxRecDepth 65536 in
set_option maxHeartbeats 40000000 in
theorem own_lpA {p : Program} {l : Launch} {e : Env} {s : State} {m : MethodId} {args : Array Value} {below : List Frame} {meth : Method} {c : Code} {Z : State} {a0 : Array Value} {n0 : Nat} (hx : p.tables.exec = Jvm.exec) (hby : c.code = prog_13_method_11_code) (hml : c.maxLocals = 10) (hown : s.vm.findClass "com/example/indexloom/indexloom/data/DataHeader" = some m.cls) (hret : meth.sig.returnType = some .int) (hlk : meth.locks = false) (hZ : Z.Warmed39 s.vm) (hw : ∀ d ∈ tables_1, d.before a0 Z = true) (r0 r3 : Addr) (p1 x4 x5 x6 : Int32) (t : Nat) (nb : Int32) (fb : Int32 → Int32) (cm bl : Nat → Bool) {h0 : Heap} {G : State → Outcome → Prop} (V0 : own_Arr Z h0 r0 .byte nb fb) (ht : (t : Int) ≤ nb.toInt) (HC : own_Cls cm bl t fb) {s8 s9 : Slot} {T0 : State} (A0 : own_At p l e ({ frames := 1, cells := 0, slots := 0, locals := 12 } : Room) s m args below meth c n0 T0 h0 0 0) :
    ∀ (k i : Nat), t - i = k → i ≤ t → own_Go p.tables e below G (T0.setTop (mkF m 39 #[.val (.ref r0), .val (.int p1), .val (.int (Int32.ofNat t)), .val (.ref r3), .val (.int x4), .val (.int x5), .val (.int x6), .val (.int (Int32.ofNat (own_end cm t k i))), s8, s9] [])) → own_Go p.tables e below G (T0.setTop (mkF m 18 #[.val (.ref r0), .val (.int p1), .val (.int (Int32.ofNat t)), .val (.ref r3), .val (.int x4), .val (.int x5), .val (.int x6), .val (.int (Int32.ofNat i)), s8, s9] [])) := by
  intro k
  induction k with
  | zero =>
    intro i h1 h2 K
    show own_Go _ _ _ _ (T0.setTop (mkF m 18 #[.val (.ref r0), .val (.int p1), .val (.int (Int32.ofNat t)), .val (.ref r3), .val (.int x4), .val (.int x5), .val (.int x6), .val (.int (Int32.ofNat i)), s8, s9] []))
    refine own_go (fun t_ k_ => XS.iload A0.here hx rfl (hb hby d12_18) rfl k_) ?_
    show own_Go _ _ _ _ (T0.setTop (mkF m 20 #[.val (.ref r0), .val (.int p1), .val (.int (Int32.ofNat t)), .val (.ref r3), .val (.int x4), .val (.int x5), .val (.int x6), .val (.int (Int32.ofNat i)), s8, s9] [(.int (Int32.ofNat i))]))
    refine own_go (fun t_ k_ => XS.iloadN A0.here hx rfl (hb hby d12_20) rfl k_) ?_
    show own_Go _ _ _ _ (T0.setTop (mkF m 21 #[.val (.ref r0), .val (.int p1), .val (.int (Int32.ofNat t)), .val (.ref r3), .val (.int x4), .val (.int x5), .val (.int x6), .val (.int (Int32.ofNat i)), s8, s9] [(.int (Int32.ofNat t)), (.int (Int32.ofNat i))]))
    have hc1 : ¬ ((Int32.ofNat i) < (Int32.ofNat t)) := fun q => absurd ((own_nlt (by have := nb.toInt_lt; omega) (by have := nb.toInt_lt; omega)).mp q) (by omega)
    refine own_go (fun t_ k_ => XS.icmpYes A0.here hx rfl (pc0 := 21) (pc' := 39) rfl (hb hby d12_21) rfl (flt hc1).2.1 (by decide) (by decide) k_) ?_
    show own_Go _ _ _ _ (T0.setTop (mkF m 39 #[.val (.ref r0), .val (.int p1), .val (.int (Int32.ofNat t)), .val (.ref r3), .val (.int x4), .val (.int x5), .val (.int x6), .val (.int (Int32.ofNat i)), s8, s9] []))
    exact K
  | succ k ih =>
    intro i h1 h2 K
    show own_Go _ _ _ _ (T0.setTop (mkF m 18 #[.val (.ref r0), .val (.int p1), .val (.int (Int32.ofNat t)), .val (.ref r3), .val (.int x4), .val (.int x5), .val (.int x6), .val (.int (Int32.ofNat i)), s8, s9] []))
    refine own_go (fun t_ k_ => XS.iload A0.here hx rfl (hb hby d12_18) rfl k_) ?_
    show own_Go _ _ _ _ (T0.setTop (mkF m 20 #[.val (.ref r0), .val (.int p1), .val (.int (Int32.ofNat t)), .val (.ref r3), .val (.int x4), .val (.int x5), .val (.int x6), .val (.int (Int32.ofNat i)), s8, s9] [(.int (Int32.ofNat i))]))
    refine own_go (fun t_ k_ => XS.iloadN A0.here hx rfl (hb hby d12_20) rfl k_) ?_
    show own_Go _ _ _ _ (T0.setTop (mkF m 21 #[.val (.ref r0), .val (.int p1), .val (.int (Int32.ofNat t)), .val (.ref r3), .val (.int x4), .val (.int x5), .val (.int x6), .val (.int (Int32.ofNat i)), s8, s9] [(.int (Int32.ofNat t)), (.int (Int32.ofNat i))]))
    have hc2 : (Int32.ofNat i) < (Int32.ofNat t) := (own_nlt (by have := nb.toInt_lt; omega) (by have := nb.toInt_lt; omega)).mpr (by omega)
    refine own_go (fun t_ k_ => XS.icmpNo A0.here hx rfl (hb hby d12_21) rfl (tlt hc2).2.1 k_) ?_
    show own_Go _ _ _ _ (T0.setTop (mkF m 24 #[.val (.ref r0), .val (.int p1), .val (.int (Int32.ofNat t)), .val (.ref r3), .val (.int x4), .val (.int x5), .val (.int x6), .val (.int (Int32.ofNat i)), s8, s9] []))
    refine own_go (fun t_ k_ => XS.aloadN A0.here hx rfl (hb hby d12_24) rfl rfl k_) ?_
    show own_Go _ _ _ _ (T0.setTop (mkF m 25 #[.val (.ref r0), .val (.int p1), .val (.int (Int32.ofNat t)), .val (.ref r3), .val (.int x4), .val (.int x5), .val (.int x6), .val (.int (Int32.ofNat i)), s8, s9] [(.ref r0)]))
    refine own_go (fun t_ k_ => XS.iload A0.here hx rfl (hb hby d12_25) rfl k_) ?_
    show own_Go _ _ _ _ (T0.setTop (mkF m 27 #[.val (.ref r0), .val (.int p1), .val (.int (Int32.ofNat t)), .val (.ref r3), .val (.int x4), .val (.int x5), .val (.int x6), .val (.int (Int32.ofNat i)), s8, s9] [(.int (Int32.ofNat i)), (.ref r0)]))
    refine own_ldB A0 hx hZ V0 ⟨own_nn (by have := nb.toInt_lt; omega), by rw [Int32.lt_iff_toInt_lt, own_nI (by have := nb.toInt_lt; omega)]; omega⟩ rfl rfl (hb hby d12_27) ?_
    show own_Go _ _ _ _ (T0.setTop (mkF m 28 #[.val (.ref r0), .val (.int p1), .val (.int (Int32.ofNat t)), .val (.ref r3), .val (.int x4), .val (.int x5), .val (.int x6), .val (.int (Int32.ofNat i)), s8, s9] [(.int (fb (Int32.ofNat i)))]))
    refine own_go (fun t_ k_ => XS.bipush A0.here hx rfl (hb hby d12_28) k_) ?_
    show own_Go _ _ _ _ (T0.setTop (mkF m 30 #[.val (.ref r0), .val (.int p1), .val (.int (Int32.ofNat t)), .val (.ref r3), .val (.int x4), .val (.int x5), .val (.int x6), .val (.int (Int32.ofNat i)), s8, s9] [(.int (44 : Int32)), (.int (fb (Int32.ofNat i)))]))
    by_cases hc3 : (fb (Int32.ofNat i)) = (44 : Int32)
    ·
      refine own_go (fun t_ k_ => XS.icmpYes A0.here hx rfl (pc0 := 30) (pc' := 39) rfl (hb hby d12_30) rfl (teq hc3).1 (by decide) (by decide) k_) ?_
      show own_Go _ _ _ _ (T0.setTop (mkF m 39 #[.val (.ref r0), .val (.int p1), .val (.int (Int32.ofNat t)), .val (.ref r3), .val (.int x4), .val (.int x5), .val (.int x6), .val (.int (Int32.ofNat i)), s8, s9] []))
      rw [show own_end cm t (k + 1) i = i by unfold own_end; rw [if_pos ((HC i (by omega)).1.mp hc3)]] at K
      exact K
    ·
      refine own_go (fun t_ k_ => XS.icmpNo A0.here hx rfl (hb hby d12_30) rfl (feq hc3).1 k_) ?_
      show own_Go _ _ _ _ (T0.setTop (mkF m 33 #[.val (.ref r0), .val (.int p1), .val (.int (Int32.ofNat t)), .val (.ref r3), .val (.int x4), .val (.int x5), .val (.int x6), .val (.int (Int32.ofNat i)), s8, s9] []))
      refine own_go (fun t_ k_ => XS.iinc A0.here hx rfl (hb hby d12_33) rfl (l' := #[.val (.ref r0), .val (.int p1), .val (.int (Int32.ofNat t)), .val (.ref r3), .val (.int x4), .val (.int x5), .val (.int x6), .val (.int ((Int32.ofNat i) + (1 : Int32))), s8, s9]) rfl k_) ?_
      show own_Go _ _ _ _ (T0.setTop (mkF m 36 #[.val (.ref r0), .val (.int p1), .val (.int (Int32.ofNat t)), .val (.ref r3), .val (.int x4), .val (.int x5), .val (.int x6), .val (.int ((Int32.ofNat i) + (1 : Int32))), s8, s9] []))
      refine own_go (fun t_ k_ => XS.goto A0.here hx rfl (pc0 := 36) (pc' := 18) rfl (hb hby d12_36) (by decide) (by decide) k_) ?_
      show own_Go _ _ _ _ (T0.setTop (mkF m 18 #[.val (.ref r0), .val (.int p1), .val (.int (Int32.ofNat t)), .val (.ref r3), .val (.int x4), .val (.int x5), .val (.int x6), .val (.int ((Int32.ofNat i) + (1 : Int32))), s8, s9] []))
      rw [show own_end cm t (k + 1) i = own_end cm t k (i + 1) by rw [own_end]; rw [if_neg (fun q => hc3 ((HC i (by omega)).1.mpr q))]] at K
      rw [own_succ]
      exact ih (i + 1) (by omega) (by omega) K
theorem d12_56 : decode prog_13_method_11_code 56 = .ok (.iload 8, 2) := by decide +kernel
theorem d12_58 : decode prog_13_method_11_code 58 = .ok (.iload 9, 2) := by decide +kernel
theorem d12_60 : decode prog_13_method_11_code 60 = .ok (.if_icmp .ge 19, 3) := by decide +kernel
theorem d12_63 : decode prog_13_method_11_code 63 = .ok (.aload_n 0, 1) := by decide +kernel
theorem d12_64 : decode prog_13_method_11_code 64 = .ok (.iload 8, 2) := by decide +kernel
theorem d12_66 : decode prog_13_method_11_code 66 = .ok (.baload, 1) := by decide +kernel
theorem d12_67 : decode prog_13_method_11_code 67 = .ok (.invokestatic 88, 3) := by decide +kernel
theorem pd__B_Z : parseMethodDescriptor "(B)Z" = some ⟨[.byte], some .boolean⟩ := by decide +kernel
theorem d12_70 : decode prog_13_method_11_code 70 = .ok (.ifCond .eq 9, 3) := by decide +kernel
theorem d12_73 : decode prog_13_method_11_code 73 = .ok (.iinc 8 1, 3) := by decide +kernel
theorem d12_76 : decode prog_13_method_11_code 76 = .ok (.goto (-20), 3) := by decide +kernel
set_option maxRecDepth 65536 in
set_option maxHeartbeats 40000000 in
theorem own_lpB {p : Program} {l : Launch} {e : Env} {s : State} {m : MethodId} {args : Array Value} {below : List Frame} {meth : Method} {c : Code} {Z : State} {a0 : Array Value} {n0 : Nat} (hx : p.tables.exec = Jvm.exec) (hby : c.code = prog_13_method_11_code) (hml : c.maxLocals = 10) (hown : s.vm.findClass "com/example/indexloom/indexloom/data/DataHeader" = some m.cls) (hret : meth.sig.returnType = some .int) (hlk : meth.locks = false) (hZ : Z.Warmed39 s.vm) (hw : ∀ d ∈ tables_1, d.before a0 Z = true) (r0 r3 : Addr) (p1 x4 x5 x6 : Int32) (t : Nat) (nb : Int32) (fb : Int32 → Int32) (cm bl : Nat → Bool) {h0 : Heap} {G : State → Outcome → Prop} (V0 : own_Arr Z h0 r0 .byte nb fb) (ht : (t : Int) ≤ nb.toInt) (HC : own_Cls cm bl t fb) (x7 : Int32) (la : Nat) (hla : la ≤ t) :
    ∀ (k i : Nat) (T0 : State), own_At p l e ({ frames := 1, cells := 0, slots := 0, locals := 12 } : Room) s m args below meth c n0 T0 h0 0 0 → la - i = k → i ≤ la → (∀ T0, own_At p l e ({ frames := 1, cells := 0, slots := 0, locals := 12 } : Room) s m args below meth c n0 T0 h0 0 0 → own_Go p.tables e below G (T0.setTop (mkF m 79 #[.val (.ref r0), .val (.int p1), .val (.int (Int32.ofNat t)), .val (.ref r3), .val (.int x4), .val (.int x5), .val (.int x6), .val (.int x7), .val (.int (Int32.ofNat (own_first bl k i))), .val (.int (Int32.ofNat la))] []))) → own_Go p.tables e below G (T0.setTop (mkF m 56 #[.val (.ref r0), .val (.int p1), .val (.int (Int32.ofNat t)), .val (.ref r3), .val (.int x4), .val (.int x5), .val (.int x6), .val (.int x7), .val (.int (Int32.ofNat i)), .val (.int (Int32.ofNat la))] [])) := by
  intro k
  induction k with
  | zero =>
    intro i T0 A0 h1 h2 K
    show own_Go _ _ _ _ (T0.setTop (mkF m 56 #[.val (.ref r0), .val (.int p1), .val (.int (Int32.ofNat t)), .val (.ref r3), .val (.int x4), .val (.int x5), .val (.int x6), .val (.int x7), .val (.int (Int32.ofNat i)), .val (.int (Int32.ofNat la))] []))
    refine own_go (fun t_ k_ => XS.iload A0.here hx rfl (hb hby d12_56) rfl k_) ?_
    show own_Go _ _ _ _ (T0.setTop (mkF m 58 #[.val (.ref r0), .val (.int p1), .val (.int (Int32.ofNat t)), .val (.ref r3), .val (.int x4), .val (.int x5), .val (.int x6), .val (.int x7), .val (.int (Int32.ofNat i)), .val (.int (Int32.ofNat la))] [(.int (Int32.ofNat i))]))
    refine own_go (fun t_ k_ => XS.iload A0.here hx rfl (hb hby d12_58) rfl k_) ?_
    show own_Go _ _ _ _ (T0.setTop (mkF m 60 #[.val (.ref r0), .val (.int p1), .val (.int (Int32.ofNat t)), .val (.ref r3), .val (.int x4), .val (.int x5), .val (.int x6), .val (.int x7), .val (.int (Int32.ofNat i)), .val (.int (Int32.ofNat la))] [(.int (Int32.ofNat la)), (.int (Int32.ofNat i))]))
    have hc4 : ¬ ((Int32.ofNat i) < (Int32.ofNat la)) := fun q => absurd ((own_nlt (by have := nb.toInt_lt; omega) (by have := nb.toInt_lt; omega)).mp q) (by omega)
    refine own_go (fun t_ k_ => XS.icmpYes A0.here hx rfl (pc0 := 60) (pc' := 79) rfl (hb hby d12_60) rfl (flt hc4).2.1 (by decide) (by decide) k_) ?_
    show own_Go _ _ _ _ (T0.setTop (mkF m 79 #[.val (.ref r0), .val (.int p1), .val (.int (Int32.ofNat t)), .val (.ref r3), .val (.int x4), .val (.int x5), .val (.int x6), .val (.int x7), .val (.int (Int32.ofNat i)), .val (.int (Int32.ofNat la))] []))
    exact K _ A0
  | succ k ih =>
    intro i T0 A0 h1 h2 K
    show own_Go _ _ _ _ (T0.setTop (mkF m 56 #[.val (.ref r0), .val (.int p1), .val (.int (Int32.ofNat t)), .val (.ref r3), .val (.int x4), .val (.int x5), .val (.int x6), .val (.int x7), .val (.int (Int32.ofNat i)), .val (.int (Int32.ofNat la))] []))
    refine own_go (fun t_ k_ => XS.iload A0.here hx rfl (hb hby d12_56) rfl k_) ?_
    show own_Go _ _ _ _ (T0.setTop (mkF m 58 #[.val (.ref r0), .val (.int p1), .val (.int (Int32.ofNat t)), .val (.ref r3), .val (.int x4), .val (.int x5), .val (.int x6), .val (.int x7), .val (.int (Int32.ofNat i)), .val (.int (Int32.ofNat la))] [(.int (Int32.ofNat i))]))
    refine own_go (fun t_ k_ => XS.iload A0.here hx rfl (hb hby d12_58) rfl k_) ?_
    show own_Go _ _ _ _ (T0.setTop (mkF m 60 #[.val (.ref r0), .val (.int p1), .val (.int (Int32.ofNat t)), .val (.ref r3), .val (.int x4), .val (.int x5), .val (.int x6), .val (.int x7), .val (.int (Int32.ofNat i)), .val (.int (Int32.ofNat la))] [(.int (Int32.ofNat la)), (.int (Int32.ofNat i))]))
    have hc5 : (Int32.ofNat i) < (Int32.ofNat la) := (own_nlt (by have := nb.toInt_lt; omega) (by have := nb.toInt_lt; omega)).mpr (by omega)
    refine own_go (fun t_ k_ => XS.icmpNo A0.here hx rfl (hb hby d12_60) rfl (tlt hc5).2.1 k_) ?_
    show own_Go _ _ _ _ (T0.setTop (mkF m 63 #[.val (.ref r0), .val (.int p1), .val (.int (Int32.ofNat t)), .val (.ref r3), .val (.int x4), .val (.int x5), .val (.int x6), .val (.int x7), .val (.int (Int32.ofNat i)), .val (.int (Int32.ofNat la))] []))
    refine own_go (fun t_ k_ => XS.aloadN A0.here hx rfl (hb hby d12_63) rfl rfl k_) ?_
    show own_Go _ _ _ _ (T0.setTop (mkF m 64 #[.val (.ref r0), .val (.int p1), .val (.int (Int32.ofNat t)), .val (.ref r3), .val (.int x4), .val (.int x5), .val (.int x6), .val (.int x7), .val (.int (Int32.ofNat i)), .val (.int (Int32.ofNat la))] [(.ref r0)]))
    refine own_go (fun t_ k_ => XS.iload A0.here hx rfl (hb hby d12_64) rfl k_) ?_
    show own_Go _ _ _ _ (T0.setTop (mkF m 66 #[.val (.ref r0), .val (.int p1), .val (.int (Int32.ofNat t)), .val (.ref r3), .val (.int x4), .val (.int x5), .val (.int x6), .val (.int x7), .val (.int (Int32.ofNat i)), .val (.int (Int32.ofNat la))] [(.int (Int32.ofNat i)), (.ref r0)]))
    refine own_ldB A0 hx hZ V0 ⟨own_nn (by have := nb.toInt_lt; omega), by rw [Int32.lt_iff_toInt_lt, own_nI (by have := nb.toInt_lt; omega)]; omega⟩ rfl rfl (hb hby d12_66) ?_
    show own_Go _ _ _ _ (T0.setTop (mkF m 67 #[.val (.ref r0), .val (.int p1), .val (.int (Int32.ofNat t)), .val (.ref r3), .val (.int x4), .val (.int x5), .val (.int x6), .val (.int x7), .val (.int (Int32.ofNat i)), .val (.int (Int32.ofNat la))] [(.int (fb (Int32.ofNat i)))]))
    refine own_callS A0 hx hZ hown (y := (⟨"com/example/indexloom/indexloom/data/DataHeader", "isBlank", "(B)Z"⟩ : MethodName)) (hw _ (List.mem_of_getElem? (i := 73) rfl)) (hw _ (List.mem_of_getElem? (i := 74) rfl)) (hw _ (List.mem_of_getElem? (i := 15) rfl)) (hw _ (List.mem_of_getElem? (i := 75) rfl)) (by decide) (argsL := [(.int (fb (Int32.ofNat i)))]) (rest := []) (rm13 l Z a0 hw (fb (Int32.ofNat i)) h0 n0 ) 0 (by decide) (by decide) rfl (by rw [hml]; rfl) (lenOf pd__B_Z rfl) rfl (by show 2 * 0 + _ ≤ _; exact Nat.le_of_eq rfl) (hb hby d12_67) (by decide) (by decide) (fun v9 T6 h8 A7 hQ10 => ?_)
    obtain ⟨rfl, rfl⟩ := hQ10
    show own_Go _ _ _ _ (T6.setTop (mkF m 70 #[.val (.ref r0), .val (.int p1), .val (.int (Int32.ofNat t)), .val (.ref r3), .val (.int x4), .val (.int x5), .val (.int x6), .val (.int x7), .val (.int (Int32.ofNat i)), .val (.int (Int32.ofNat la))] [(.int (f13 (fb (Int32.ofNat i))))]))
    by_cases hc11 : (f13 (fb (Int32.ofNat i))) = (0 : Int32)
    ·
      refine own_go (fun t_ k_ => XS.ifYes A7.here hx rfl (pc0 := 70) (pc' := 79) rfl (hb hby d12_70) rfl ((if0 _ _).trans (teq hc11).1) (by decide) (by decide) k_) ?_
      show own_Go _ _ _ _ (T6.setTop (mkF m 79 #[.val (.ref r0), .val (.int p1), .val (.int (Int32.ofNat t)), .val (.ref r3), .val (.int x4), .val (.int x5), .val (.int x6), .val (.int x7), .val (.int (Int32.ofNat i)), .val (.int (Int32.ofNat la))] []))
      rw [show own_first bl (k + 1) i = i by unfold own_first; rw [if_neg (fun q => (own_blank0 _).mp hc11 ((HC i (by omega)).2.mpr q))]] at K
      exact K _ A7
    ·
      refine own_go (fun t_ k_ => XS.ifNo A7.here hx rfl (hb hby d12_70) rfl ((if0 _ _).trans (feq hc11).1) k_) ?_
      show own_Go _ _ _ _ (T6.setTop (mkF m 73 #[.val (.ref r0), .val (.int p1), .val (.int (Int32.ofNat t)), .val (.ref r3), .val (.int x4), .val (.int x5), .val (.int x6), .val (.int x7), .val (.int (Int32.ofNat i)), .val (.int (Int32.ofNat la))] []))
      refine own_go (fun t_ k_ => XS.iinc A7.here hx rfl (hb hby d12_73) rfl (l' := #[.val (.ref r0), .val (.int p1), .val (.int (Int32.ofNat t)), .val (.ref r3), .val (.int x4), .val (.int x5), .val (.int x6), .val (.int x7), .val (.int ((Int32.ofNat i) + (1 : Int32))), .val (.int (Int32.ofNat la))]) rfl k_) ?_
      show own_Go _ _ _ _ (T6.setTop (mkF m 76 #[.val (.ref r0), .val (.int p1), .val (.int (Int32.ofNat t)), .val (.ref r3), .val (.int x4), .val (.int x5), .val (.int x6), .val (.int x7), .val (.int ((Int32.ofNat i) + (1 : Int32))), .val (.int (Int32.ofNat la))] []))
      refine own_go (fun t_ k_ => XS.goto A7.here hx rfl (pc0 := 76) (pc' := 56) rfl (hb hby d12_76) (by decide) (by decide) k_) ?_
      show own_Go _ _ _ _ (T6.setTop (mkF m 56 #[.val (.ref r0), .val (.int p1), .val (.int (Int32.ofNat t)), .val (.ref r3), .val (.int x4), .val (.int x5), .val (.int x6), .val (.int x7), .val (.int ((Int32.ofNat i) + (1 : Int32))), .val (.int (Int32.ofNat la))] []))
      rw [show own_first bl (k + 1) i = own_first bl k (i + 1) by rw [own_first]; rw [if_pos ((HC i (by omega)).2.mp (Classical.not_not.mp fun q => hc11 ((own_blank0 _).mpr q)))]] at K
      rw [own_succ]
      exact ih (i + 1) _ A7 (by omega) (by omega) K
theorem d12_79 : decode prog_13_method_11_code 79 = .ok (.iload 9, 2) := by decide +kernel
theorem d12_81 : decode prog_13_method_11_code 81 = .ok (.iload 8, 2) := by decide +kernel
theorem d12_83 : decode prog_13_method_11_code 83 = .ok (.if_icmp .le 21, 3) := by decide +kernel
theorem d12_86 : decode prog_13_method_11_code 86 = .ok (.aload_n 0, 1) := by decide +kernel
theorem d12_87 : decode prog_13_method_11_code 87 = .ok (.iload 9, 2) := by decide +kernel
theorem d12_89 : decode prog_13_method_11_code 89 = .ok (.iconst 1, 1) := by decide +kernel
theorem d12_90 : decode prog_13_method_11_code 90 = .ok (.isub, 1) := by decide +kernel
theorem d12_91 : decode prog_13_method_11_code 91 = .ok (.baload, 1) := by decide +kernel
theorem d12_92 : decode prog_13_method_11_code 92 = .ok (.invokestatic 88, 3) := by decide +kernel
theorem d12_95 : decode prog_13_method_11_code 95 = .ok (.ifCond .eq 9, 3) := by decide +kernel
theorem d12_98 : decode prog_13_method_11_code 98 = .ok (.iinc 9 (-1), 3) := by decide +kernel
theorem d12_101 : decode prog_13_method_11_code 101 = .ok (.goto (-22), 3) := by decide +kernel
set_option maxRecDepth 65536 in
set_option maxHeartbeats 40000000 in
theorem own_lpC {p : Program} {l : Launch} {e : Env} {s : State} {m : MethodId} {args : Array Value} {below : List Frame} {meth : Method} {c : Code} {Z : State} {a0 : Array Value} {n0 : Nat} (hx : p.tables.exec = Jvm.exec) (hby : c.code = prog_13_method_11_code) (hml : c.maxLocals = 10) (hown : s.vm.findClass "com/example/indexloom/indexloom/data/DataHeader" = some m.cls) (hret : meth.sig.returnType = some .int) (hlk : meth.locks = false) (hZ : Z.Warmed39 s.vm) (hw : ∀ d ∈ tables_1, d.before a0 Z = true) (r0 r3 : Addr) (p1 x4 x5 x6 : Int32) (t : Nat) (nb : Int32) (fb : Int32 → Int32) (cm bl : Nat → Bool) {h0 : Heap} {G : State → Outcome → Prop} (V0 : own_Arr Z h0 r0 .byte nb fb) (ht : (t : Int) ≤ nb.toInt) (HC : own_Cls cm bl t fb) (x7 : Int32) (fi : Nat) :
    ∀ (k : Nat) (T0 : State), own_At p l e ({ frames := 1, cells := 0, slots := 0, locals := 12 } : Room) s m args below meth c n0 T0 h0 0 0 → fi + k ≤ t → (∀ T0, own_At p l e ({ frames := 1, cells := 0, slots := 0, locals := 12 } : Room) s m args below meth c n0 T0 h0 0 0 → own_Go p.tables e below G (T0.setTop (mkF m 104 #[.val (.ref r0), .val (.int p1), .val (.int (Int32.ofNat t)), .val (.ref r3), .val (.int x4), .val (.int x5), .val (.int x6), .val (.int x7), .val (.int (Int32.ofNat fi)), .val (.int (Int32.ofNat (own_last bl fi k)))] []))) → own_Go p.tables e below G (T0.setTop (mkF m 79 #[.val (.ref r0), .val (.int p1), .val (.int (Int32.ofNat t)), .val (.ref r3), .val (.int x4), .val (.int x5), .val (.int x6), .val (.int x7), .val (.int (Int32.ofNat fi)), .val (.int (Int32.ofNat (fi + k)))] [])) := by
  intro k
  induction k with
  | zero =>
    intro T0 A0 h1 K
    show own_Go _ _ _ _ (T0.setTop (mkF m 79 #[.val (.ref r0), .val (.int p1), .val (.int (Int32.ofNat t)), .val (.ref r3), .val (.int x4), .val (.int x5), .val (.int x6), .val (.int x7), .val (.int (Int32.ofNat fi)), .val (.int (Int32.ofNat (fi + 0)))] []))
    refine own_go (fun t_ k_ => XS.iload A0.here hx rfl (hb hby d12_79) rfl k_) ?_
    show own_Go _ _ _ _ (T0.setTop (mkF m 81 #[.val (.ref r0), .val (.int p1), .val (.int (Int32.ofNat t)), .val (.ref r3), .val (.int x4), .val (.int x5), .val (.int x6), .val (.int x7), .val (.int (Int32.ofNat fi)), .val (.int (Int32.ofNat (fi + 0)))] [(.int (Int32.ofNat (fi + 0)))]))
    refine own_go (fun t_ k_ => XS.iload A0.here hx rfl (hb hby d12_81) rfl k_) ?_
    show own_Go _ _ _ _ (T0.setTop (mkF m 83 #[.val (.ref r0), .val (.int p1), .val (.int (Int32.ofNat t)), .val (.ref r3), .val (.int x4), .val (.int x5), .val (.int x6), .val (.int x7), .val (.int (Int32.ofNat fi)), .val (.int (Int32.ofNat (fi + 0)))] [(.int (Int32.ofNat fi)), (.int (Int32.ofNat (fi + 0)))]))
    have hc12 : ¬ ((Int32.ofNat fi) < (Int32.ofNat (fi + 0))) := fun q => absurd ((own_nlt (by have := nb.toInt_lt; omega) (by have := nb.toInt_lt; omega)).mp q) (by omega)
    refine own_go (fun t_ k_ => XS.icmpYes A0.here hx rfl (pc0 := 83) (pc' := 104) rfl (hb hby d12_83) rfl (flt hc12).2.2.2 (by decide) (by decide) k_) ?_
    show own_Go _ _ _ _ (T0.setTop (mkF m 104 #[.val (.ref r0), .val (.int p1), .val (.int (Int32.ofNat t)), .val (.ref r3), .val (.int x4), .val (.int x5), .val (.int x6), .val (.int x7), .val (.int (Int32.ofNat fi)), .val (.int (Int32.ofNat (fi + 0)))] []))
    exact K _ A0
  | succ k ih =>
    intro T0 A0 h1 K
    show own_Go _ _ _ _ (T0.setTop (mkF m 79 #[.val (.ref r0), .val (.int p1), .val (.int (Int32.ofNat t)), .val (.ref r3), .val (.int x4), .val (.int x5), .val (.int x6), .val (.int x7), .val (.int (Int32.ofNat fi)), .val (.int (Int32.ofNat (fi + k + 1)))] []))
    refine own_go (fun t_ k_ => XS.iload A0.here hx rfl (hb hby d12_79) rfl k_) ?_
    show own_Go _ _ _ _ (T0.setTop (mkF m 81 #[.val (.ref r0), .val (.int p1), .val (.int (Int32.ofNat t)), .val (.ref r3), .val (.int x4), .val (.int x5), .val (.int x6), .val (.int x7), .val (.int (Int32.ofNat fi)), .val (.int (Int32.ofNat (fi + k + 1)))] [(.int (Int32.ofNat (fi + k + 1)))]))
    refine own_go (fun t_ k_ => XS.iload A0.here hx rfl (hb hby d12_81) rfl k_) ?_
    show own_Go _ _ _ _ (T0.setTop (mkF m 83 #[.val (.ref r0), .val (.int p1), .val (.int (Int32.ofNat t)), .val (.ref r3), .val (.int x4), .val (.int x5), .val (.int x6), .val (.int x7), .val (.int (Int32.ofNat fi)), .val (.int (Int32.ofNat (fi + k + 1)))] [(.int (Int32.ofNat fi)), (.int (Int32.ofNat (fi + k + 1)))]))
    have hc13 : (Int32.ofNat fi) < (Int32.ofNat (fi + k + 1)) := (own_nlt (by have := nb.toInt_lt; omega) (by have := nb.toInt_lt; omega)).mpr (by omega)
    refine own_go (fun t_ k_ => XS.icmpNo A0.here hx rfl (hb hby d12_83) rfl (tlt hc13).2.2.2 k_) ?_
    show own_Go _ _ _ _ (T0.setTop (mkF m 86 #[.val (.ref r0), .val (.int p1), .val (.int (Int32.ofNat t)), .val (.ref r3), .val (.int x4), .val (.int x5), .val (.int x6), .val (.int x7), .val (.int (Int32.ofNat fi)), .val (.int (Int32.ofNat (fi + k + 1)))] []))
    refine own_go (fun t_ k_ => XS.aloadN A0.here hx rfl (hb hby d12_86) rfl rfl k_) ?_
    show own_Go _ _ _ _ (T0.setTop (mkF m 87 #[.val (.ref r0), .val (.int p1), .val (.int (Int32.ofNat t)), .val (.ref r3), .val (.int x4), .val (.int x5), .val (.int x6), .val (.int x7), .val (.int (Int32.ofNat fi)), .val (.int (Int32.ofNat (fi + k + 1)))] [(.ref r0)]))
    refine own_go (fun t_ k_ => XS.iload A0.here hx rfl (hb hby d12_87) rfl k_) ?_
    show own_Go _ _ _ _ (T0.setTop (mkF m 89 #[.val (.ref r0), .val (.int p1), .val (.int (Int32.ofNat t)), .val (.ref r3), .val (.int x4), .val (.int x5), .val (.int x6), .val (.int x7), .val (.int (Int32.ofNat fi)), .val (.int (Int32.ofNat (fi + k + 1)))] [(.int (Int32.ofNat (fi + k + 1))), (.ref r0)]))
    refine own_go (fun t_ k_ => XS.iconst A0.here hx rfl (hb hby d12_89) k_) ?_
    show own_Go _ _ _ _ (T0.setTop (mkF m 90 #[.val (.ref r0), .val (.int p1), .val (.int (Int32.ofNat t)), .val (.ref r3), .val (.int x4), .val (.int x5), .val (.int x6), .val (.int x7), .val (.int (Int32.ofNat fi)), .val (.int (Int32.ofNat (fi + k + 1)))] [(.int (1 : Int32)), (.int (Int32.ofNat (fi + k + 1))), (.ref r0)]))
    refine own_go (fun t_ k_ => XS.isub A0.here hx rfl (hb hby d12_90) rfl k_) ?_
    show own_Go _ _ _ _ (T0.setTop (mkF m 91 #[.val (.ref r0), .val (.int p1), .val (.int (Int32.ofNat t)), .val (.ref r3), .val (.int x4), .val (.int x5), .val (.int x6), .val (.int x7), .val (.int (Int32.ofNat fi)), .val (.int (Int32.ofNat (fi + k + 1)))] [(.int ((Int32.ofNat (fi + k + 1)) - (1 : Int32))), (.ref r0)]))
    rw [own_sub1 (fi + k)]
    show own_Go _ _ _ _ (T0.setTop (mkF m 91 #[.val (.ref r0), .val (.int p1), .val (.int (Int32.ofNat t)), .val (.ref r3), .val (.int x4), .val (.int x5), .val (.int x6), .val (.int x7), .val (.int (Int32.ofNat fi)), .val (.int (Int32.ofNat (fi + k + 1)))] [(.int (Int32.ofNat (fi + k))), (.ref r0)]))
    refine own_ldB A0 hx hZ V0 ⟨own_nn (by have := nb.toInt_lt; omega), by rw [Int32.lt_iff_toInt_lt, own_nI (by have := nb.toInt_lt; omega)]; omega⟩ rfl rfl (hb hby d12_91) ?_
    show own_Go _ _ _ _ (T0.setTop (mkF m 92 #[.val (.ref r0), .val (.int p1), .val (.int (Int32.ofNat t)), .val (.ref r3), .val (.int x4), .val (.int x5), .val (.int x6), .val (.int x7), .val (.int (Int32.ofNat fi)), .val (.int (Int32.ofNat (fi + k + 1)))] [(.int (fb (Int32.ofNat (fi + k))))]))
    refine own_callS A0 hx hZ hown (y := (⟨"com/example/indexloom/indexloom/data/DataHeader", "isBlank", "(B)Z"⟩ : MethodName)) (hw _ (List.mem_of_getElem? (i := 73) rfl)) (hw _ (List.mem_of_getElem? (i := 74) rfl)) (hw _ (List.mem_of_getElem? (i := 15) rfl)) (hw _ (List.mem_of_getElem? (i := 75) rfl)) (by decide) (argsL := [(.int (fb (Int32.ofNat (fi + k))))]) (rest := []) (rm13 l Z a0 hw (fb (Int32.ofNat (fi + k))) h0 n0 ) 0 (by decide) (by decide) rfl (by rw [hml]; rfl) (lenOf pd__B_Z rfl) rfl (by show 2 * 0 + _ ≤ _; exact Nat.le_of_eq rfl) (hb hby d12_92) (by decide) (by decide) (fun v17 T14 h16 A15 hQ18 => ?_)
    obtain ⟨rfl, rfl⟩ := hQ18
    show own_Go _ _ _ _ (T14.setTop (mkF m 95 #[.val (.ref r0), .val (.int p1), .val (.int (Int32.ofNat t)), .val (.ref r3), .val (.int x4), .val (.int x5), .val (.int x6), .val (.int x7), .val (.int (Int32.ofNat fi)), .val (.int (Int32.ofNat (fi + k + 1)))] [(.int (f13 (fb (Int32.ofNat (fi + k)))))]))
    by_cases hc19 : (f13 (fb (Int32.ofNat (fi + k)))) = (0 : Int32)
    ·
      refine own_go (fun t_ k_ => XS.ifYes A15.here hx rfl (pc0 := 95) (pc' := 104) rfl (hb hby d12_95) rfl ((if0 _ _).trans (teq hc19).1) (by decide) (by decide) k_) ?_
      show own_Go _ _ _ _ (T14.setTop (mkF m 104 #[.val (.ref r0), .val (.int p1), .val (.int (Int32.ofNat t)), .val (.ref r3), .val (.int x4), .val (.int x5), .val (.int x6), .val (.int x7), .val (.int (Int32.ofNat fi)), .val (.int (Int32.ofNat (fi + k + 1)))] []))
      rw [show own_last bl fi (k + 1) = fi + k + 1 by unfold own_last; rw [if_neg (fun q => (own_blank0 _).mp hc19 ((HC (fi + k) (by omega)).2.mpr q))]] at K
      exact K _ A15
    ·
      refine own_go (fun t_ k_ => XS.ifNo A15.here hx rfl (hb hby d12_95) rfl ((if0 _ _).trans (feq hc19).1) k_) ?_
      show own_Go _ _ _ _ (T14.setTop (mkF m 98 #[.val (.ref r0), .val (.int p1), .val (.int (Int32.ofNat t)), .val (.ref r3), .val (.int x4), .val (.int x5), .val (.int x6), .val (.int x7), .val (.int (Int32.ofNat fi)), .val (.int (Int32.ofNat (fi + k + 1)))] []))
      refine own_go (fun t_ k_ => XS.iinc A15.here hx rfl (hb hby d12_98) rfl (l' := #[.val (.ref r0), .val (.int p1), .val (.int (Int32.ofNat t)), .val (.ref r3), .val (.int x4), .val (.int x5), .val (.int x6), .val (.int x7), .val (.int (Int32.ofNat fi)), .val (.int ((Int32.ofNat (fi + k + 1)) + (-1 : Int32)))]) rfl k_) ?_
      show own_Go _ _ _ _ (T14.setTop (mkF m 101 #[.val (.ref r0), .val (.int p1), .val (.int (Int32.ofNat t)), .val (.ref r3), .val (.int x4), .val (.int x5), .val (.int x6), .val (.int x7), .val (.int (Int32.ofNat fi)), .val (.int ((Int32.ofNat (fi + k + 1)) + (-1 : Int32)))] []))
      refine own_go (fun t_ k_ => XS.goto A15.here hx rfl (pc0 := 101) (pc' := 79) rfl (hb hby d12_101) (by decide) (by decide) k_) ?_
      show own_Go _ _ _ _ (T14.setTop (mkF m 79 #[.val (.ref r0), .val (.int p1), .val (.int (Int32.ofNat t)), .val (.ref r3), .val (.int x4), .val (.int x5), .val (.int x6), .val (.int x7), .val (.int (Int32.ofNat fi)), .val (.int ((Int32.ofNat (fi + k + 1)) + (-1 : Int32)))] []))
      rw [show own_last bl fi (k + 1) = own_last bl fi k by rw [own_last]; rw [if_pos ((HC (fi + k) (by omega)).2.mp (Classical.not_not.mp fun q => hc19 ((own_blank0 _).mpr q)))]] at K
      rw [own_prd]
      exact ih _ A15 (by omega) K
theorem d12_122 : decode prog_13_method_11_code 122 = .ok (.iinc 4 1, 3) := by decide +kernel
theorem d12_125 : decode prog_13_method_11_code 125 = .ok (.iload 7, 2) := by decide +kernel
theorem d12_127 : decode prog_13_method_11_code 127 = .ok (.iload_n 2, 1) := by decide +kernel
theorem d12_128 : decode prog_13_method_11_code 128 = .ok (.if_icmp .ge 7, 3) := by decide +kernel
theorem d12_131 : decode prog_13_method_11_code 131 = .ok (.iconst 1, 1) := by decide +kernel
theorem d12_132 : decode prog_13_method_11_code 132 = .ok (.goto 4, 3) := by decide +kernel
theorem d12_136 : decode prog_13_method_11_code 136 = .ok (.istore 6, 2) := by decide +kernel
theorem d12_138 : decode prog_13_method_11_code 138 = .ok (.iload 7, 2) := by decide +kernel
theorem d12_140 : decode prog_13_method_11_code 140 = .ok (.iconst 1, 1) := by decide +kernel
theorem d12_141 : decode prog_13_method_11_code 141 = .ok (.iadd, 1) := by decide +kernel
theorem d12_142 : decode prog_13_method_11_code 142 = .ok (.istore 5, 2) := by decide +kernel
theorem d12_144 : decode prog_13_method_11_code 144 = .ok (.goto (-135), 3) := by decide +kernel
theorem d12_135 : decode prog_13_method_11_code 135 = .ok (.iconst 0, 1) := by decide +kernel
theorem d12_9 : decode prog_13_method_11_code 9 = .ok (.iload 6, 2) := by decide +kernel
theorem d12_11 : decode prog_13_method_11_code 11 = .ok (.ifCond .eq 136, 3) := by decide +kernel
theorem d12_147 : decode prog_13_method_11_code 147 = .ok (.iload 4, 2) := by decide +kernel
theorem d12_149 : decode prog_13_method_11_code 149 = .ok (.ireturn, 1) := by decide +kernel
theorem d12_14 : decode prog_13_method_11_code 14 = .ok (.iload 5, 2) := by decide +kernel
theorem d12_16 : decode prog_13_method_11_code 16 = .ok (.istore 7, 2) := by decide +kernel
theorem os12_16_vvvvvvvsss {z0 : Value} {z1 : Value} {z2 : Value} {z3 : Value} {z4 : Value} {z5 : Value} {z6 : Value} {s7 : Slot} {s8 : Slot} {s9 : Slot} {v : Int32} (h : One s7) : storeLocals #[.val z0, .val z1, .val z2, .val z3, .val z4, .val z5, .val z6, s7, s8, s9] 7 (.int v) = some #[.val z0, .val z1, .val z2, .val z3, .val z4, .val z5, .val z6, .val (.int v), s8, s9] := by
  rcases h with rfl | ⟨w, rfl, hw⟩
  · rfl
  · cases w <;> first | rfl | (simp [Value.category] at hw)
theorem d12_39 : decode prog_13_method_11_code 39 = .ok (.iconst 2, 1) := by decide +kernel
theorem d12_40 : decode prog_13_method_11_code 40 = .ok (.iload 4, 2) := by decide +kernel
theorem d12_42 : decode prog_13_method_11_code 42 = .ok (.imul, 1) := by decide +kernel
theorem d12_43 : decode prog_13_method_11_code 43 = .ok (.aload_n 3, 1) := by decide +kernel
theorem d12_44 : decode prog_13_method_11_code 44 = .ok (.arraylength, 1) := by decide +kernel
theorem d12_45 : decode prog_13_method_11_code 45 = .ok (.if_icmp .ge 77, 3) := by decide +kernel
theorem d12_48 : decode prog_13_method_11_code 48 = .ok (.iload 5, 2) := by decide +kernel
theorem d12_50 : decode prog_13_method_11_code 50 = .ok (.istore 8, 2) := by decide +kernel
theorem os12_50_vvvvvvvvss {z0 : Value} {z1 : Value} {z2 : Value} {z3 : Value} {z4 : Value} {z5 : Value} {z6 : Value} {z7 : Value} {s8 : Slot} {s9 : Slot} {v : Int32} (h : One s8) : storeLocals #[.val z0, .val z1, .val z2, .val z3, .val z4, .val z5, .val z6, .val z7, s8, s9] 8 (.int v) = some #[.val z0, .val z1, .val z2, .val z3, .val z4, .val z5, .val z6, .val z7, .val (.int v), s9] := by
  rcases h with rfl | ⟨w, rfl, hw⟩
  · rfl
  · cases w <;> first | rfl | (simp [Value.category] at hw)
theorem d12_52 : decode prog_13_method_11_code 52 = .ok (.iload 7, 2) := by decide +kernel
theorem d12_54 : decode prog_13_method_11_code 54 = .ok (.istore 9, 2) := by decide +kernel
theorem os12_54_vvvvvvvvvs {z0 : Value} {z1 : Value} {z2 : Value} {z3 : Value} {z4 : Value} {z5 : Value} {z6 : Value} {z7 : Value} {z8 : Value} {s9 : Slot} {v : Int32} (h : One s9) : storeLocals #[.val z0, .val z1, .val z2, .val z3, .val z4, .val z5, .val z6, .val z7, .val z8, s9] 9 (.int v) = some #[.val z0, .val z1, .val z2, .val z3, .val z4, .val z5, .val z6, .val z7, .val z8, .val (.int v)] := by
  rcases h with rfl | ⟨w, rfl, hw⟩
  · rfl
  · cases w <;> first | rfl | (simp [Value.category] at hw)
theorem d12_104 : decode prog_13_method_11_code 104 = .ok (.aload_n 3, 1) := by decide +kernel
theorem d12_105 : decode prog_13_method_11_code 105 = .ok (.iconst 2, 1) := by decide +kernel
theorem d12_106 : decode prog_13_method_11_code 106 = .ok (.iload 4, 2) := by decide +kernel
theorem d12_108 : decode prog_13_method_11_code 108 = .ok (.imul, 1) := by decide +kernel
theorem d12_109 : decode prog_13_method_11_code 109 = .ok (.iload 8, 2) := by decide +kernel
theorem d12_111 : decode prog_13_method_11_code 111 = .ok (.iastore, 1) := by decide +kernel
theorem d12_112 : decode prog_13_method_11_code 112 = .ok (.aload_n 3, 1) := by decide +kernel
theorem d12_113 : decode prog_13_method_11_code 113 = .ok (.iconst 2, 1) := by decide +kernel
theorem d12_114 : decode prog_13_method_11_code 114 = .ok (.iload 4, 2) := by decide +kernel
theorem d12_116 : decode prog_13_method_11_code 116 = .ok (.imul, 1) := by decide +kernel
theorem d12_117 : decode prog_13_method_11_code 117 = .ok (.iconst 1, 1) := by decide +kernel
theorem d12_118 : decode prog_13_method_11_code 118 = .ok (.iadd, 1) := by decide +kernel
theorem d12_119 : decode prog_13_method_11_code 119 = .ok (.iload 9, 2) := by decide +kernel
theorem d12_121 : decode prog_13_method_11_code 121 = .ok (.iastore, 1) := by decide +kernel
set_option maxRecDepth 65536 in
set_option maxHeartbeats 40000000 in
theorem own_lpO {p : Program} {l : Launch} {e : Env} {s : State} {m : MethodId} {args : Array Value} {below : List Frame} {meth : Method} {c : Code} {Z : State} {a0 : Array Value} {n0 : Nat} (hx : p.tables.exec = Jvm.exec) (hby : c.code = prog_13_method_11_code) (hml : c.maxLocals = 10) (hown : s.vm.findClass "com/example/indexloom/indexloom/data/DataHeader" = some m.cls) (hret : meth.sig.returnType = some .int) (hlk : meth.locks = false) (hZ : Z.Warmed39 s.vm) (hw : ∀ d ∈ tables_1, d.before a0 Z = true) (r0 r3 : Addr) (p1 : Int32) (t q : Nat) (nb : Int32) (fb fl : Int32 → Int32) (cm bl : Nat → Bool) {h0 : Heap} (ht : (t : Int) ≤ nb.toInt) (htb : t < 2 ^ 29) (HC : own_Cls cm bl t fb) (hq : 2 * q < 2 ^ 30) (ne : r0 ≠ r3) (g3 : n0 ≤ r3) :
    ∀ (k st : Nat) (fs : List (Nat × Nat)) (h : Heap) (cc : Int32 → Int32) (s7 s8 s9 : Slot) (T0 : State), own_At p l e ({ frames := 1, cells := 0, slots := 0, locals := 12 } : Room) s m args below meth c n0 T0 h 0 0 → t - st < k → st ≤ t → fs.length ≤ st → One s7 → One s8 → One s9 → own_Arr Z h r0 .byte nb fb → own_Arr Z h r3 .int (Int32.ofNat (2 * q)) cc → own_Bd q fs fl cc → Keep h0 h [r3] →
      own_Go p.tables e below (own_End n0 s 0 0 (fun v h => v = some (.int (Int32.ofNat (fs ++ own_fields cm bl t k st).length)) ∧ Keep h0 h [r3] ∧ ∃ c, own_Arr Z h r3 .int (Int32.ofNat (2 * q)) c ∧ own_Bd q (fs ++ own_fields cm bl t k st) fl c)) (T0.setTop (mkF m 9 #[.val (.ref r0), .val (.int p1), .val (.int (Int32.ofNat t)), .val (.ref r3), .val (.int (Int32.ofNat fs.length)), .val (.int (Int32.ofNat st)), .val (.int (1 : Int32)), s7, s8, s9] [])) := by
  intro k
  induction k with
  | zero => intro st fs h cc s7 s8 s9 T0 A0 h1; omega
  | succ k ih =>
    intro st fs h cc s7 s8 s9 T0 A0 h1 h2 h3 o7 o8 o9 V0 V3 B3 KP
    have htn := nb.toInt_lt
    have hen := own_end_le (cm := cm) (t - st) st rfl h2
    generalize hE : own_end cm t (t - st) st = en at hen
    have tail : ∀ (T0 : State) (h : Heap) (cc : Int32 → Int32) (x : Nat × Nat) (s8 s9 : Slot), own_At p l e ({ frames := 1, cells := 0, slots := 0, locals := 12 } : Room) s m args below meth c n0 T0 h 0 0 → One s8 → One s9 → own_Arr Z h r0 .byte nb fb → own_Arr Z h r3 .int (Int32.ofNat (2 * q)) cc → own_Bd q (fs ++ [x]) fl cc → Keep h0 h [r3] → own_fields cm bl t (k + 1) st = x :: (if en < t then own_fields cm bl t k (en + 1) else []) → own_Go p.tables e below (own_End n0 s 0 0 (fun v h => v = some (.int (Int32.ofNat (fs ++ own_fields cm bl t (k + 1) st).length)) ∧ Keep h0 h [r3] ∧ ∃ c, own_Arr Z h r3 .int (Int32.ofNat (2 * q)) c ∧ own_Bd q (fs ++ own_fields cm bl t (k + 1) st) fl c)) (T0.setTop (mkF m 122 #[.val (.ref r0), .val (.int p1), .val (.int (Int32.ofNat t)), .val (.ref r3), .val (.int (Int32.ofNat fs.length)), .val (.int (Int32.ofNat st)), .val (.int (1 : Int32)), .val (.int (Int32.ofNat en)), s8, s9] [])) := by
      intro T0 h cc x s8 s9 A0 o8 o9 V0 V3 B3 KP hx1
      rw [hx1]
      show own_Go _ _ _ _ (T0.setTop (mkF m 122 #[.val (.ref r0), .val (.int p1), .val (.int (Int32.ofNat t)), .val (.ref r3), .val (.int (Int32.ofNat fs.length)), .val (.int (Int32.ofNat st)), .val (.int (1 : Int32)), .val (.int (Int32.ofNat en)), s8, s9] []))
      by_cases hlt : en < t
      ·
        rw [if_pos hlt]
        refine own_go (fun t_ k_ => XS.iinc A0.here hx rfl (hb hby d12_122) rfl (l' := #[.val (.ref r0), .val (.int p1), .val (.int (Int32.ofNat t)), .val (.ref r3), .val (.int ((Int32.ofNat fs.length) + (1 : Int32))), .val (.int (Int32.ofNat st)), .val (.int (1 : Int32)), .val (.int (Int32.ofNat en)), s8, s9]) rfl k_) ?_
        show own_Go _ _ _ _ (T0.setTop (mkF m 125 #[.val (.ref r0), .val (.int p1), .val (.int (Int32.ofNat t)), .val (.ref r3), .val (.int ((Int32.ofNat fs.length) + (1 : Int32))), .val (.int (Int32.ofNat st)), .val (.int (1 : Int32)), .val (.int (Int32.ofNat en)), s8, s9] []))
        refine own_go (fun t_ k_ => XS.iload A0.here hx rfl (hb hby d12_125) rfl k_) ?_
        show own_Go _ _ _ _ (T0.setTop (mkF m 127 #[.val (.ref r0), .val (.int p1), .val (.int (Int32.ofNat t)), .val (.ref r3), .val (.int ((Int32.ofNat fs.length) + (1 : Int32))), .val (.int (Int32.ofNat st)), .val (.int (1 : Int32)), .val (.int (Int32.ofNat en)), s8, s9] [(.int (Int32.ofNat en))]))
        refine own_go (fun t_ k_ => XS.iloadN A0.here hx rfl (hb hby d12_127) rfl k_) ?_
        show own_Go _ _ _ _ (T0.setTop (mkF m 128 #[.val (.ref r0), .val (.int p1), .val (.int (Int32.ofNat t)), .val (.ref r3), .val (.int ((Int32.ofNat fs.length) + (1 : Int32))), .val (.int (Int32.ofNat st)), .val (.int (1 : Int32)), .val (.int (Int32.ofNat en)), s8, s9] [(.int (Int32.ofNat t)), (.int (Int32.ofNat en))]))
        have hc20 : (Int32.ofNat en) < (Int32.ofNat t) := (own_nlt (by omega) (by omega)).mpr hlt
        refine own_go (fun t_ k_ => XS.icmpNo A0.here hx rfl (hb hby d12_128) rfl (tlt hc20).2.1 k_) ?_
        show own_Go _ _ _ _ (T0.setTop (mkF m 131 #[.val (.ref r0), .val (.int p1), .val (.int (Int32.ofNat t)), .val (.ref r3), .val (.int ((Int32.ofNat fs.length) + (1 : Int32))), .val (.int (Int32.ofNat st)), .val (.int (1 : Int32)), .val (.int (Int32.ofNat en)), s8, s9] []))
        refine own_go (fun t_ k_ => XS.iconst A0.here hx rfl (hb hby d12_131) k_) ?_
        show own_Go _ _ _ _ (T0.setTop (mkF m 132 #[.val (.ref r0), .val (.int p1), .val (.int (Int32.ofNat t)), .val (.ref r3), .val (.int ((Int32.ofNat fs.length) + (1 : Int32))), .val (.int (Int32.ofNat st)), .val (.int (1 : Int32)), .val (.int (Int32.ofNat en)), s8, s9] [(.int (1 : Int32))]))
        refine own_go (fun t_ k_ => XS.goto A0.here hx rfl (pc0 := 132) (pc' := 136) rfl (hb hby d12_132) (by decide) (by decide) k_) ?_
        show own_Go _ _ _ _ (T0.setTop (mkF m 136 #[.val (.ref r0), .val (.int p1), .val (.int (Int32.ofNat t)), .val (.ref r3), .val (.int ((Int32.ofNat fs.length) + (1 : Int32))), .val (.int (Int32.ofNat st)), .val (.int (1 : Int32)), .val (.int (Int32.ofNat en)), s8, s9] [(.int (1 : Int32))]))
        refine own_go (fun t_ k_ => XS.istore A0.here hx rfl (hb hby d12_136) rfl (l' := #[.val (.ref r0), .val (.int p1), .val (.int (Int32.ofNat t)), .val (.ref r3), .val (.int ((Int32.ofNat fs.length) + (1 : Int32))), .val (.int (Int32.ofNat st)), .val (.int (1 : Int32)), .val (.int (Int32.ofNat en)), s8, s9]) rfl k_) ?_
        show own_Go _ _ _ _ (T0.setTop (mkF m 138 #[.val (.ref r0), .val (.int p1), .val (.int (Int32.ofNat t)), .val (.ref r3), .val (.int ((Int32.ofNat fs.length) + (1 : Int32))), .val (.int (Int32.ofNat st)), .val (.int (1 : Int32)), .val (.int (Int32.ofNat en)), s8, s9] []))
        refine own_go (fun t_ k_ => XS.iload A0.here hx rfl (hb hby d12_138) rfl k_) ?_
        show own_Go _ _ _ _ (T0.setTop (mkF m 140 #[.val (.ref r0), .val (.int p1), .val (.int (Int32.ofNat t)), .val (.ref r3), .val (.int ((Int32.ofNat fs.length) + (1 : Int32))), .val (.int (Int32.ofNat st)), .val (.int (1 : Int32)), .val (.int (Int32.ofNat en)), s8, s9] [(.int (Int32.ofNat en))]))
        refine own_go (fun t_ k_ => XS.iconst A0.here hx rfl (hb hby d12_140) k_) ?_
        show own_Go _ _ _ _ (T0.setTop (mkF m 141 #[.val (.ref r0), .val (.int p1), .val (.int (Int32.ofNat t)), .val (.ref r3), .val (.int ((Int32.ofNat fs.length) + (1 : Int32))), .val (.int (Int32.ofNat st)), .val (.int (1 : Int32)), .val (.int (Int32.ofNat en)), s8, s9] [(.int (1 : Int32)), (.int (Int32.ofNat en))]))
        refine own_go (fun t_ k_ => XS.iadd A0.here hx rfl (hb hby d12_141) rfl k_) ?_
        show own_Go _ _ _ _ (T0.setTop (mkF m 142 #[.val (.ref r0), .val (.int p1), .val (.int (Int32.ofNat t)), .val (.ref r3), .val (.int ((Int32.ofNat fs.length) + (1 : Int32))), .val (.int (Int32.ofNat st)), .val (.int (1 : Int32)), .val (.int (Int32.ofNat en)), s8, s9] [(.int ((Int32.ofNat en) + (1 : Int32)))]))
        refine own_go (fun t_ k_ => XS.istore A0.here hx rfl (hb hby d12_142) rfl (l' := #[.val (.ref r0), .val (.int p1), .val (.int (Int32.ofNat t)), .val (.ref r3), .val (.int ((Int32.ofNat fs.length) + (1 : Int32))), .val (.int ((Int32.ofNat en) + (1 : Int32))), .val (.int (1 : Int32)), .val (.int (Int32.ofNat en)), s8, s9]) rfl k_) ?_
        show own_Go _ _ _ _ (T0.setTop (mkF m 144 #[.val (.ref r0), .val (.int p1), .val (.int (Int32.ofNat t)), .val (.ref r3), .val (.int ((Int32.ofNat fs.length) + (1 : Int32))), .val (.int ((Int32.ofNat en) + (1 : Int32))), .val (.int (1 : Int32)), .val (.int (Int32.ofNat en)), s8, s9] []))
        refine own_go (fun t_ k_ => XS.goto A0.here hx rfl (pc0 := 144) (pc' := 9) rfl (hb hby d12_144) (by decide) (by decide) k_) ?_
        show own_Go _ _ _ _ (T0.setTop (mkF m 9 #[.val (.ref r0), .val (.int p1), .val (.int (Int32.ofNat t)), .val (.ref r3), .val (.int ((Int32.ofNat fs.length) + (1 : Int32))), .val (.int ((Int32.ofNat en) + (1 : Int32))), .val (.int (1 : Int32)), .val (.int (Int32.ofNat en)), s8, s9] []))
        rw [own_succ, own_succ]
        have e1 : fs ++ x :: own_fields cm bl t k (en + 1) = (fs ++ [x]) ++ own_fields cm bl t k (en + 1) := by simp
        have e2 : fs.length + 1 = (fs ++ [x]).length := by simp
        rw [e1, e2]
        exact ih (en + 1) (fs ++ [x]) h cc _ s8 s9 _ A0 (by omega) (by omega) (by simp; omega) (One.val rfl) o8 o9 V0 V3 B3 KP
      ·
        rw [if_neg hlt]
        refine own_go (fun t_ k_ => XS.iinc A0.here hx rfl (hb hby d12_122) rfl (l' := #[.val (.ref r0), .val (.int p1), .val (.int (Int32.ofNat t)), .val (.ref r3), .val (.int ((Int32.ofNat fs.length) + (1 : Int32))), .val (.int (Int32.ofNat st)), .val (.int (1 : Int32)), .val (.int (Int32.ofNat en)), s8, s9]) rfl k_) ?_
        show own_Go _ _ _ _ (T0.setTop (mkF m 125 #[.val (.ref r0), .val (.int p1), .val (.int (Int32.ofNat t)), .val (.ref r3), .val (.int ((Int32.ofNat fs.length) + (1 : Int32))), .val (.int (Int32.ofNat st)), .val (.int (1 : Int32)), .val (.int (Int32.ofNat en)), s8, s9] []))
        refine own_go (fun t_ k_ => XS.iload A0.here hx rfl (hb hby d12_125) rfl k_) ?_
        show own_Go _ _ _ _ (T0.setTop (mkF m 127 #[.val (.ref r0), .val (.int p1), .val (.int (Int32.ofNat t)), .val (.ref r3), .val (.int ((Int32.ofNat fs.length) + (1 : Int32))), .val (.int (Int32.ofNat st)), .val (.int (1 : Int32)), .val (.int (Int32.ofNat en)), s8, s9] [(.int (Int32.ofNat en))]))
        refine own_go (fun t_ k_ => XS.iloadN A0.here hx rfl (hb hby d12_127) rfl k_) ?_
        show own_Go _ _ _ _ (T0.setTop (mkF m 128 #[.val (.ref r0), .val (.int p1), .val (.int (Int32.ofNat t)), .val (.ref r3), .val (.int ((Int32.ofNat fs.length) + (1 : Int32))), .val (.int (Int32.ofNat st)), .val (.int (1 : Int32)), .val (.int (Int32.ofNat en)), s8, s9] [(.int (Int32.ofNat t)), (.int (Int32.ofNat en))]))
        have hc21 : ¬ ((Int32.ofNat en) < (Int32.ofNat t)) := fun q => hlt ((own_nlt (by omega) (by omega)).mp q)
        refine own_go (fun t_ k_ => XS.icmpYes A0.here hx rfl (pc0 := 128) (pc' := 135) rfl (hb hby d12_128) rfl (flt hc21).2.1 (by decide) (by decide) k_) ?_
        show own_Go _ _ _ _ (T0.setTop (mkF m 135 #[.val (.ref r0), .val (.int p1), .val (.int (Int32.ofNat t)), .val (.ref r3), .val (.int ((Int32.ofNat fs.length) + (1 : Int32))), .val (.int (Int32.ofNat st)), .val (.int (1 : Int32)), .val (.int (Int32.ofNat en)), s8, s9] []))
        refine own_go (fun t_ k_ => XS.iconst A0.here hx rfl (hb hby d12_135) k_) ?_
        show own_Go _ _ _ _ (T0.setTop (mkF m 136 #[.val (.ref r0), .val (.int p1), .val (.int (Int32.ofNat t)), .val (.ref r3), .val (.int ((Int32.ofNat fs.length) + (1 : Int32))), .val (.int (Int32.ofNat st)), .val (.int (1 : Int32)), .val (.int (Int32.ofNat en)), s8, s9] [(.int (0 : Int32))]))
        refine own_go (fun t_ k_ => XS.istore A0.here hx rfl (hb hby d12_136) rfl (l' := #[.val (.ref r0), .val (.int p1), .val (.int (Int32.ofNat t)), .val (.ref r3), .val (.int ((Int32.ofNat fs.length) + (1 : Int32))), .val (.int (Int32.ofNat st)), .val (.int (0 : Int32)), .val (.int (Int32.ofNat en)), s8, s9]) rfl k_) ?_
        show own_Go _ _ _ _ (T0.setTop (mkF m 138 #[.val (.ref r0), .val (.int p1), .val (.int (Int32.ofNat t)), .val (.ref r3), .val (.int ((Int32.ofNat fs.length) + (1 : Int32))), .val (.int (Int32.ofNat st)), .val (.int (0 : Int32)), .val (.int (Int32.ofNat en)), s8, s9] []))
        refine own_go (fun t_ k_ => XS.iload A0.here hx rfl (hb hby d12_138) rfl k_) ?_
        show own_Go _ _ _ _ (T0.setTop (mkF m 140 #[.val (.ref r0), .val (.int p1), .val (.int (Int32.ofNat t)), .val (.ref r3), .val (.int ((Int32.ofNat fs.length) + (1 : Int32))), .val (.int (Int32.ofNat st)), .val (.int (0 : Int32)), .val (.int (Int32.ofNat en)), s8, s9] [(.int (Int32.ofNat en))]))
        refine own_go (fun t_ k_ => XS.iconst A0.here hx rfl (hb hby d12_140) k_) ?_
        show own_Go _ _ _ _ (T0.setTop (mkF m 141 #[.val (.ref r0), .val (.int p1), .val (.int (Int32.ofNat t)), .val (.ref r3), .val (.int ((Int32.ofNat fs.length) + (1 : Int32))), .val (.int (Int32.ofNat st)), .val (.int (0 : Int32)), .val (.int (Int32.ofNat en)), s8, s9] [(.int (1 : Int32)), (.int (Int32.ofNat en))]))
        refine own_go (fun t_ k_ => XS.iadd A0.here hx rfl (hb hby d12_141) rfl k_) ?_
        show own_Go _ _ _ _ (T0.setTop (mkF m 142 #[.val (.ref r0), .val (.int p1), .val (.int (Int32.ofNat t)), .val (.ref r3), .val (.int ((Int32.ofNat fs.length) + (1 : Int32))), .val (.int (Int32.ofNat st)), .val (.int (0 : Int32)), .val (.int (Int32.ofNat en)), s8, s9] [(.int ((Int32.ofNat en) + (1 : Int32)))]))
        refine own_go (fun t_ k_ => XS.istore A0.here hx rfl (hb hby d12_142) rfl (l' := #[.val (.ref r0), .val (.int p1), .val (.int (Int32.ofNat t)), .val (.ref r3), .val (.int ((Int32.ofNat fs.length) + (1 : Int32))), .val (.int ((Int32.ofNat en) + (1 : Int32))), .val (.int (0 : Int32)), .val (.int (Int32.ofNat en)), s8, s9]) rfl k_) ?_
        show own_Go _ _ _ _ (T0.setTop (mkF m 144 #[.val (.ref r0), .val (.int p1), .val (.int (Int32.ofNat t)), .val (.ref r3), .val (.int ((Int32.ofNat fs.length) + (1 : Int32))), .val (.int ((Int32.ofNat en) + (1 : Int32))), .val (.int (0 : Int32)), .val (.int (Int32.ofNat en)), s8, s9] []))
        refine own_go (fun t_ k_ => XS.goto A0.here hx rfl (pc0 := 144) (pc' := 9) rfl (hb hby d12_144) (by decide) (by decide) k_) ?_
        show own_Go _ _ _ _ (T0.setTop (mkF m 9 #[.val (.ref r0), .val (.int p1), .val (.int (Int32.ofNat t)), .val (.ref r3), .val (.int ((Int32.ofNat fs.length) + (1 : Int32))), .val (.int ((Int32.ofNat en) + (1 : Int32))), .val (.int (0 : Int32)), .val (.int (Int32.ofNat en)), s8, s9] []))
        refine own_go (fun t_ k_ => XS.iload A0.here hx rfl (hb hby d12_9) rfl k_) ?_
        show own_Go _ _ _ _ (T0.setTop (mkF m 11 #[.val (.ref r0), .val (.int p1), .val (.int (Int32.ofNat t)), .val (.ref r3), .val (.int ((Int32.ofNat fs.length) + (1 : Int32))), .val (.int ((Int32.ofNat en) + (1 : Int32))), .val (.int (0 : Int32)), .val (.int (Int32.ofNat en)), s8, s9] [(.int (0 : Int32))]))
        have hc22 : (0 : Int32) = (0 : Int32) := rfl
        refine own_go (fun t_ k_ => XS.ifYes A0.here hx rfl (pc0 := 11) (pc' := 147) rfl (hb hby d12_11) rfl ((if0 _ _).trans (teq hc22).1) (by decide) (by decide) k_) ?_
        show own_Go _ _ _ _ (T0.setTop (mkF m 147 #[.val (.ref r0), .val (.int p1), .val (.int (Int32.ofNat t)), .val (.ref r3), .val (.int ((Int32.ofNat fs.length) + (1 : Int32))), .val (.int ((Int32.ofNat en) + (1 : Int32))), .val (.int (0 : Int32)), .val (.int (Int32.ofNat en)), s8, s9] []))
        refine own_go (fun t_ k_ => XS.iload A0.here hx rfl (hb hby d12_147) rfl k_) ?_
        show own_Go _ _ _ _ (T0.setTop (mkF m 149 #[.val (.ref r0), .val (.int p1), .val (.int (Int32.ofNat t)), .val (.ref r3), .val (.int ((Int32.ofNat fs.length) + (1 : Int32))), .val (.int ((Int32.ofNat en) + (1 : Int32))), .val (.int (0 : Int32)), .val (.int (Int32.ofNat en)), s8, s9] [(.int ((Int32.ofNat fs.length) + (1 : Int32)))]))
        refine own_retI A0 hx hret hlk (by decide) (by decide) (hb hby d12_149) ?_
        rw [own_succ]
        have e2 : fs.length + 1 = (fs ++ [x]).length := by simp
        rw [e2]
        exact ⟨rfl, KP, cc, V3, B3⟩
    show own_Go _ _ _ _ (T0.setTop (mkF m 9 #[.val (.ref r0), .val (.int p1), .val (.int (Int32.ofNat t)), .val (.ref r3), .val (.int (Int32.ofNat fs.length)), .val (.int (Int32.ofNat st)), .val (.int (1 : Int32)), s7, s8, s9] []))
    refine own_go (fun t_ k_ => XS.iload A0.here hx rfl (hb hby d12_9) rfl k_) ?_
    show own_Go _ _ _ _ (T0.setTop (mkF m 11 #[.val (.ref r0), .val (.int p1), .val (.int (Int32.ofNat t)), .val (.ref r3), .val (.int (Int32.ofNat fs.length)), .val (.int (Int32.ofNat st)), .val (.int (1 : Int32)), s7, s8, s9] [(.int (1 : Int32))]))
    have hc23 : ¬ ((1 : Int32) = (0 : Int32)) := (by decide)
    refine own_go (fun t_ k_ => XS.ifNo A0.here hx rfl (hb hby d12_11) rfl ((if0 _ _).trans (feq hc23).1) k_) ?_
    show own_Go _ _ _ _ (T0.setTop (mkF m 14 #[.val (.ref r0), .val (.int p1), .val (.int (Int32.ofNat t)), .val (.ref r3), .val (.int (Int32.ofNat fs.length)), .val (.int (Int32.ofNat st)), .val (.int (1 : Int32)), s7, s8, s9] []))
    refine own_go (fun t_ k_ => XS.iload A0.here hx rfl (hb hby d12_14) rfl k_) ?_
    show own_Go _ _ _ _ (T0.setTop (mkF m 16 #[.val (.ref r0), .val (.int p1), .val (.int (Int32.ofNat t)), .val (.ref r3), .val (.int (Int32.ofNat fs.length)), .val (.int (Int32.ofNat st)), .val (.int (1 : Int32)), s7, s8, s9] [(.int (Int32.ofNat st))]))
    refine own_go (fun t_ k_ => XS.istore A0.here hx rfl (hb hby d12_16) rfl (l' := #[.val (.ref r0), .val (.int p1), .val (.int (Int32.ofNat t)), .val (.ref r3), .val (.int (Int32.ofNat fs.length)), .val (.int (Int32.ofNat st)), .val (.int (1 : Int32)), .val (.int (Int32.ofNat st)), s8, s9]) (os12_16_vvvvvvvsss o7) k_) ?_
    show own_Go _ _ _ _ (T0.setTop (mkF m 18 #[.val (.ref r0), .val (.int p1), .val (.int (Int32.ofNat t)), .val (.ref r3), .val (.int (Int32.ofNat fs.length)), .val (.int (Int32.ofNat st)), .val (.int (1 : Int32)), .val (.int (Int32.ofNat st)), s8, s9] []))
    refine own_lpA hx hby hml hown hret hlk hZ hw r0 r3 p1 _ _ _ t nb fb cm bl V0 ht HC A0 (t - st) st rfl h2 ?_
    rw [hE]
    show own_Go _ _ _ _ (T0.setTop (mkF m 39 #[.val (.ref r0), .val (.int p1), .val (.int (Int32.ofNat t)), .val (.ref r3), .val (.int (Int32.ofNat fs.length)), .val (.int (Int32.ofNat st)), .val (.int (1 : Int32)), .val (.int (Int32.ofNat en)), s8, s9] []))
    refine own_go (fun t_ k_ => XS.iconst A0.here hx rfl (hb hby d12_39) k_) ?_
    show own_Go _ _ _ _ (T0.setTop (mkF m 40 #[.val (.ref r0), .val (.int p1), .val (.int (Int32.ofNat t)), .val (.ref r3), .val (.int (Int32.ofNat fs.length)), .val (.int (Int32.ofNat st)), .val (.int (1 : Int32)), .val (.int (Int32.ofNat en)), s8, s9] [(.int (2 : Int32))]))
    refine own_go (fun t_ k_ => XS.iload A0.here hx rfl (hb hby d12_40) rfl k_) ?_
    show own_Go _ _ _ _ (T0.setTop (mkF m 42 #[.val (.ref r0), .val (.int p1), .val (.int (Int32.ofNat t)), .val (.ref r3), .val (.int (Int32.ofNat fs.length)), .val (.int (Int32.ofNat st)), .val (.int (1 : Int32)), .val (.int (Int32.ofNat en)), s8, s9] [(.int (Int32.ofNat fs.length)), (.int (2 : Int32))]))
    refine own_go (fun t_ k_ => XS.imul A0.here hx rfl (hb hby d12_42) rfl k_) ?_
    show own_Go _ _ _ _ (T0.setTop (mkF m 43 #[.val (.ref r0), .val (.int p1), .val (.int (Int32.ofNat t)), .val (.ref r3), .val (.int (Int32.ofNat fs.length)), .val (.int (Int32.ofNat st)), .val (.int (1 : Int32)), .val (.int (Int32.ofNat en)), s8, s9] [(.int ((2 : Int32) * (Int32.ofNat fs.length)))]))
    refine own_go (fun t_ k_ => XS.aloadN A0.here hx rfl (hb hby d12_43) rfl rfl k_) ?_
    show own_Go _ _ _ _ (T0.setTop (mkF m 44 #[.val (.ref r0), .val (.int p1), .val (.int (Int32.ofNat t)), .val (.ref r3), .val (.int (Int32.ofNat fs.length)), .val (.int (Int32.ofNat st)), .val (.int (1 : Int32)), .val (.int (Int32.ofNat en)), s8, s9] [(.ref r3), (.int ((2 : Int32) * (Int32.ofNat fs.length)))]))
    refine own_len A0 hx hZ V3 rfl rfl (hb hby d12_44) ?_
    show own_Go _ _ _ _ (T0.setTop (mkF m 45 #[.val (.ref r0), .val (.int p1), .val (.int (Int32.ofNat t)), .val (.ref r3), .val (.int (Int32.ofNat fs.length)), .val (.int (Int32.ofNat st)), .val (.int (1 : Int32)), .val (.int (Int32.ofNat en)), s8, s9] [(.int (Int32.ofNat (2 * q))), (.int ((2 : Int32) * (Int32.ofNat fs.length)))]))
    rw [own_dbl]
    show own_Go _ _ _ _ (T0.setTop (mkF m 45 #[.val (.ref r0), .val (.int p1), .val (.int (Int32.ofNat t)), .val (.ref r3), .val (.int (Int32.ofNat fs.length)), .val (.int (Int32.ofNat st)), .val (.int (1 : Int32)), .val (.int (Int32.ofNat en)), s8, s9] [(.int (Int32.ofNat (2 * q))), (.int (Int32.ofNat (2 * fs.length)))]))
    by_cases hroom0 : (Int32.ofNat (2 * fs.length)) < (Int32.ofNat (2 * q))
    ·
      refine own_go (fun t_ k_ => XS.icmpNo A0.here hx rfl (hb hby d12_45) rfl (tlt hroom0).2.1 k_) ?_
      show own_Go _ _ _ _ (T0.setTop (mkF m 48 #[.val (.ref r0), .val (.int p1), .val (.int (Int32.ofNat t)), .val (.ref r3), .val (.int (Int32.ofNat fs.length)), .val (.int (Int32.ofNat st)), .val (.int (1 : Int32)), .val (.int (Int32.ofNat en)), s8, s9] []))
      refine own_go (fun t_ k_ => XS.iload A0.here hx rfl (hb hby d12_48) rfl k_) ?_
      show own_Go _ _ _ _ (T0.setTop (mkF m 50 #[.val (.ref r0), .val (.int p1), .val (.int (Int32.ofNat t)), .val (.ref r3), .val (.int (Int32.ofNat fs.length)), .val (.int (Int32.ofNat st)), .val (.int (1 : Int32)), .val (.int (Int32.ofNat en)), s8, s9] [(.int (Int32.ofNat st))]))
      refine own_go (fun t_ k_ => XS.istore A0.here hx rfl (hb hby d12_50) rfl (l' := #[.val (.ref r0), .val (.int p1), .val (.int (Int32.ofNat t)), .val (.ref r3), .val (.int (Int32.ofNat fs.length)), .val (.int (Int32.ofNat st)), .val (.int (1 : Int32)), .val (.int (Int32.ofNat en)), .val (.int (Int32.ofNat st)), s9]) (os12_50_vvvvvvvvss o8) k_) ?_
      show own_Go _ _ _ _ (T0.setTop (mkF m 52 #[.val (.ref r0), .val (.int p1), .val (.int (Int32.ofNat t)), .val (.ref r3), .val (.int (Int32.ofNat fs.length)), .val (.int (Int32.ofNat st)), .val (.int (1 : Int32)), .val (.int (Int32.ofNat en)), .val (.int (Int32.ofNat st)), s9] []))
      refine own_go (fun t_ k_ => XS.iload A0.here hx rfl (hb hby d12_52) rfl k_) ?_
      show own_Go _ _ _ _ (T0.setTop (mkF m 54 #[.val (.ref r0), .val (.int p1), .val (.int (Int32.ofNat t)), .val (.ref r3), .val (.int (Int32.ofNat fs.length)), .val (.int (Int32.ofNat st)), .val (.int (1 : Int32)), .val (.int (Int32.ofNat en)), .val (.int (Int32.ofNat st)), s9] [(.int (Int32.ofNat en))]))
      refine own_go (fun t_ k_ => XS.istore A0.here hx rfl (hb hby d12_54) rfl (l' := #[.val (.ref r0), .val (.int p1), .val (.int (Int32.ofNat t)), .val (.ref r3), .val (.int (Int32.ofNat fs.length)), .val (.int (Int32.ofNat st)), .val (.int (1 : Int32)), .val (.int (Int32.ofNat en)), .val (.int (Int32.ofNat st)), .val (.int (Int32.ofNat en))]) (os12_54_vvvvvvvvvs o9) k_) ?_
      show own_Go _ _ _ _ (T0.setTop (mkF m 56 #[.val (.ref r0), .val (.int p1), .val (.int (Int32.ofNat t)), .val (.ref r3), .val (.int (Int32.ofNat fs.length)), .val (.int (Int32.ofNat st)), .val (.int (1 : Int32)), .val (.int (Int32.ofNat en)), .val (.int (Int32.ofNat st)), .val (.int (Int32.ofNat en))] []))
      have hroom : fs.length < q := by have := (own_nlt (by omega) (by omega)).mp hroom0; omega
      have hfi := own_first_le (bl := bl) (en - st) st
      refine own_lpB hx hby hml hown hret hlk hZ hw r0 r3 p1 _ _ _ t nb fb cm bl V0 ht HC _ en hen.2 (en - st) st _ A0 rfl hen.1 (fun T4 A4 => ?_)
      generalize hF : own_first bl (en - st) st = fi at hfi
      show own_Go _ _ _ _ (T4.setTop (mkF m 79 #[.val (.ref r0), .val (.int p1), .val (.int (Int32.ofNat t)), .val (.ref r3), .val (.int (Int32.ofNat fs.length)), .val (.int (Int32.ofNat st)), .val (.int (1 : Int32)), .val (.int (Int32.ofNat en)), .val (.int (Int32.ofNat fi)), .val (.int (Int32.ofNat en))] []))
      have ela : fi + (en - fi) = en := by omega
      have hla := own_last_le (bl := bl) (fi := fi) (en - fi)
      suffices hs : own_Go p.tables e below (own_End n0 s 0 0 (fun v h => v = some (.int (Int32.ofNat (fs ++ own_fields cm bl t (k + 1) st).length)) ∧ Keep h0 h [r3] ∧ ∃ c, own_Arr Z h r3 .int (Int32.ofNat (2 * q)) c ∧ own_Bd q (fs ++ own_fields cm bl t (k + 1) st) fl c)) (T4.setTop (mkF m 79 #[.val (.ref r0), .val (.int p1), .val (.int (Int32.ofNat t)), .val (.ref r3), .val (.int (Int32.ofNat fs.length)), .val (.int (Int32.ofNat st)), .val (.int (1 : Int32)), .val (.int (Int32.ofNat en)), .val (.int (Int32.ofNat fi)), .val (.int (Int32.ofNat (fi + (en - fi))))] [])) by rw [ela] at hs; exact hs
      refine own_lpC hx hby hml hown hret hlk hZ hw r0 r3 p1 _ _ _ t nb fb cm bl V0 ht HC _ fi (en - fi) _ A4 (by omega) (fun T5 A5 => ?_)
      generalize hL : own_last bl fi (en - fi) = la at hla
      show own_Go _ _ _ _ (T5.setTop (mkF m 104 #[.val (.ref r0), .val (.int p1), .val (.int (Int32.ofNat t)), .val (.ref r3), .val (.int (Int32.ofNat fs.length)), .val (.int (Int32.ofNat st)), .val (.int (1 : Int32)), .val (.int (Int32.ofNat en)), .val (.int (Int32.ofNat fi)), .val (.int (Int32.ofNat la))] []))
      refine own_go (fun t_ k_ => XS.aloadN A5.here hx rfl (hb hby d12_104) rfl rfl k_) ?_
      show own_Go _ _ _ _ (T5.setTop (mkF m 105 #[.val (.ref r0), .val (.int p1), .val (.int (Int32.ofNat t)), .val (.ref r3), .val (.int (Int32.ofNat fs.length)), .val (.int (Int32.ofNat st)), .val (.int (1 : Int32)), .val (.int (Int32.ofNat en)), .val (.int (Int32.ofNat fi)), .val (.int (Int32.ofNat la))] [(.ref r3)]))
      refine own_go (fun t_ k_ => XS.iconst A5.here hx rfl (hb hby d12_105) k_) ?_
      show own_Go _ _ _ _ (T5.setTop (mkF m 106 #[.val (.ref r0), .val (.int p1), .val (.int (Int32.ofNat t)), .val (.ref r3), .val (.int (Int32.ofNat fs.length)), .val (.int (Int32.ofNat st)), .val (.int (1 : Int32)), .val (.int (Int32.ofNat en)), .val (.int (Int32.ofNat fi)), .val (.int (Int32.ofNat la))] [(.int (2 : Int32)), (.ref r3)]))
      refine own_go (fun t_ k_ => XS.iload A5.here hx rfl (hb hby d12_106) rfl k_) ?_
      show own_Go _ _ _ _ (T5.setTop (mkF m 108 #[.val (.ref r0), .val (.int p1), .val (.int (Int32.ofNat t)), .val (.ref r3), .val (.int (Int32.ofNat fs.length)), .val (.int (Int32.ofNat st)), .val (.int (1 : Int32)), .val (.int (Int32.ofNat en)), .val (.int (Int32.ofNat fi)), .val (.int (Int32.ofNat la))] [(.int (Int32.ofNat fs.length)), (.int (2 : Int32)), (.ref r3)]))
      refine own_go (fun t_ k_ => XS.imul A5.here hx rfl (hb hby d12_108) rfl k_) ?_
      show own_Go _ _ _ _ (T5.setTop (mkF m 109 #[.val (.ref r0), .val (.int p1), .val (.int (Int32.ofNat t)), .val (.ref r3), .val (.int (Int32.ofNat fs.length)), .val (.int (Int32.ofNat st)), .val (.int (1 : Int32)), .val (.int (Int32.ofNat en)), .val (.int (Int32.ofNat fi)), .val (.int (Int32.ofNat la))] [(.int ((2 : Int32) * (Int32.ofNat fs.length))), (.ref r3)]))
      refine own_go (fun t_ k_ => XS.iload A5.here hx rfl (hb hby d12_109) rfl k_) ?_
      show own_Go _ _ _ _ (T5.setTop (mkF m 111 #[.val (.ref r0), .val (.int p1), .val (.int (Int32.ofNat t)), .val (.ref r3), .val (.int (Int32.ofNat fs.length)), .val (.int (Int32.ofNat st)), .val (.int (1 : Int32)), .val (.int (Int32.ofNat en)), .val (.int (Int32.ofNat fi)), .val (.int (Int32.ofNat la))] [(.int (Int32.ofNat fi)), (.int ((2 : Int32) * (Int32.ofNat fs.length))), (.ref r3)]))
      rw [own_dbl]
      show own_Go _ _ _ _ (T5.setTop (mkF m 111 #[.val (.ref r0), .val (.int p1), .val (.int (Int32.ofNat t)), .val (.ref r3), .val (.int (Int32.ofNat fs.length)), .val (.int (Int32.ofNat st)), .val (.int (1 : Int32)), .val (.int (Int32.ofNat en)), .val (.int (Int32.ofNat fi)), .val (.int (Int32.ofNat la))] [(.int (Int32.ofNat fi)), (.int (Int32.ofNat (2 * fs.length))), (.ref r3)]))
      refine own_stI A5 hx hZ V3 ⟨own_nn (by omega), (own_nlt (by omega) (by omega)).mpr (by omega)⟩ g3 rfl rfl (hb hby d12_111) (fun T24 h26 A25 W27 V28 => ?_)
      have V29 : own_Arr Z h26 r0 .byte nb fb := V0.other W27 ne
      have V30 : own_Arr Z h26 r3 .int (Int32.ofNat (2 * q)) (fun i => if i = (Int32.ofNat (2 * fs.length)) then (Int32.ofNat fi) else cc i) := V28
      have K31 : Keep h0 h26 [r3] := KP.wr W27 (Or.inl (List.mem_of_getElem? (i := 0) rfl))
      show own_Go _ _ _ _ (T24.setTop (mkF m 112 #[.val (.ref r0), .val (.int p1), .val (.int (Int32.ofNat t)), .val (.ref r3), .val (.int (Int32.ofNat fs.length)), .val (.int (Int32.ofNat st)), .val (.int (1 : Int32)), .val (.int (Int32.ofNat en)), .val (.int (Int32.ofNat fi)), .val (.int (Int32.ofNat la))] []))
      refine own_go (fun t_ k_ => XS.aloadN A25.here hx rfl (hb hby d12_112) rfl rfl k_) ?_
      show own_Go _ _ _ _ (T24.setTop (mkF m 113 #[.val (.ref r0), .val (.int p1), .val (.int (Int32.ofNat t)), .val (.ref r3), .val (.int (Int32.ofNat fs.length)), .val (.int (Int32.ofNat st)), .val (.int (1 : Int32)), .val (.int (Int32.ofNat en)), .val (.int (Int32.ofNat fi)), .val (.int (Int32.ofNat la))] [(.ref r3)]))
      refine own_go (fun t_ k_ => XS.iconst A25.here hx rfl (hb hby d12_113) k_) ?_
      show own_Go _ _ _ _ (T24.setTop (mkF m 114 #[.val (.ref r0), .val (.int p1), .val (.int (Int32.ofNat t)), .val (.ref r3), .val (.int (Int32.ofNat fs.length)), .val (.int (Int32.ofNat st)), .val (.int (1 : Int32)), .val (.int (Int32.ofNat en)), .val (.int (Int32.ofNat fi)), .val (.int (Int32.ofNat la))] [(.int (2 : Int32)), (.ref r3)]))
      refine own_go (fun t_ k_ => XS.iload A25.here hx rfl (hb hby d12_114) rfl k_) ?_
      show own_Go _ _ _ _ (T24.setTop (mkF m 116 #[.val (.ref r0), .val (.int p1), .val (.int (Int32.ofNat t)), .val (.ref r3), .val (.int (Int32.ofNat fs.length)), .val (.int (Int32.ofNat st)), .val (.int (1 : Int32)), .val (.int (Int32.ofNat en)), .val (.int (Int32.ofNat fi)), .val (.int (Int32.ofNat la))] [(.int (Int32.ofNat fs.length)), (.int (2 : Int32)), (.ref r3)]))
      refine own_go (fun t_ k_ => XS.imul A25.here hx rfl (hb hby d12_116) rfl k_) ?_
      show own_Go _ _ _ _ (T24.setTop (mkF m 117 #[.val (.ref r0), .val (.int p1), .val (.int (Int32.ofNat t)), .val (.ref r3), .val (.int (Int32.ofNat fs.length)), .val (.int (Int32.ofNat st)), .val (.int (1 : Int32)), .val (.int (Int32.ofNat en)), .val (.int (Int32.ofNat fi)), .val (.int (Int32.ofNat la))] [(.int ((2 : Int32) * (Int32.ofNat fs.length))), (.ref r3)]))
      refine own_go (fun t_ k_ => XS.iconst A25.here hx rfl (hb hby d12_117) k_) ?_
      show own_Go _ _ _ _ (T24.setTop (mkF m 118 #[.val (.ref r0), .val (.int p1), .val (.int (Int32.ofNat t)), .val (.ref r3), .val (.int (Int32.ofNat fs.length)), .val (.int (Int32.ofNat st)), .val (.int (1 : Int32)), .val (.int (Int32.ofNat en)), .val (.int (Int32.ofNat fi)), .val (.int (Int32.ofNat la))] [(.int (1 : Int32)), (.int ((2 : Int32) * (Int32.ofNat fs.length))), (.ref r3)]))
      refine own_go (fun t_ k_ => XS.iadd A25.here hx rfl (hb hby d12_118) rfl k_) ?_
      show own_Go _ _ _ _ (T24.setTop (mkF m 119 #[.val (.ref r0), .val (.int p1), .val (.int (Int32.ofNat t)), .val (.ref r3), .val (.int (Int32.ofNat fs.length)), .val (.int (Int32.ofNat st)), .val (.int (1 : Int32)), .val (.int (Int32.ofNat en)), .val (.int (Int32.ofNat fi)), .val (.int (Int32.ofNat la))] [(.int (((2 : Int32) * (Int32.ofNat fs.length)) + (1 : Int32))), (.ref r3)]))
      refine own_go (fun t_ k_ => XS.iload A25.here hx rfl (hb hby d12_119) rfl k_) ?_
      show own_Go _ _ _ _ (T24.setTop (mkF m 121 #[.val (.ref r0), .val (.int p1), .val (.int (Int32.ofNat t)), .val (.ref r3), .val (.int (Int32.ofNat fs.length)), .val (.int (Int32.ofNat st)), .val (.int (1 : Int32)), .val (.int (Int32.ofNat en)), .val (.int (Int32.ofNat fi)), .val (.int (Int32.ofNat la))] [(.int (Int32.ofNat la)), (.int (((2 : Int32) * (Int32.ofNat fs.length)) + (1 : Int32))), (.ref r3)]))
      rw [own_dbl]
      show own_Go _ _ _ _ (T24.setTop (mkF m 121 #[.val (.ref r0), .val (.int p1), .val (.int (Int32.ofNat t)), .val (.ref r3), .val (.int (Int32.ofNat fs.length)), .val (.int (Int32.ofNat st)), .val (.int (1 : Int32)), .val (.int (Int32.ofNat en)), .val (.int (Int32.ofNat fi)), .val (.int (Int32.ofNat la))] [(.int (Int32.ofNat la)), (.int (Int32.ofNat (2 * fs.length) + (1 : Int32))), (.ref r3)]))
      refine own_stI A25 hx hZ V30 (by rw [own_succ]; exact ⟨own_nn (by omega), (own_nlt (by omega) (by omega)).mpr (by omega)⟩) g3 rfl rfl (hb hby d12_121) (fun T32 h34 A33 W35 V36 => ?_)
      have V37 : own_Arr Z h34 r0 .byte nb fb := V29.other W35 ne
      have V38 : own_Arr Z h34 r3 .int (Int32.ofNat (2 * q)) (fun i => if i = (Int32.ofNat (2 * fs.length) + (1 : Int32)) then (Int32.ofNat la) else (fun i => if i = (Int32.ofNat (2 * fs.length)) then (Int32.ofNat fi) else cc i) i) := V36
      have K39 : Keep h0 h34 [r3] := K31.wr W35 (Or.inl (List.mem_of_getElem? (i := 0) rfl))
      show own_Go _ _ _ _ (T32.setTop (mkF m 122 #[.val (.ref r0), .val (.int p1), .val (.int (Int32.ofNat t)), .val (.ref r3), .val (.int (Int32.ofNat fs.length)), .val (.int (Int32.ofNat st)), .val (.int (1 : Int32)), .val (.int (Int32.ofNat en)), .val (.int (Int32.ofNat fi)), .val (.int (Int32.ofNat la))] []))
      exact tail _ _ _ (fi, la) _ _ A33 (One.val rfl) (One.val rfl) V37 V38 (B3.put hroom (by omega) fi la) K39 (by rw [own_fields, hE, hF, hL])
    ·
      refine own_go (fun t_ k_ => XS.icmpYes A0.here hx rfl (pc0 := 45) (pc' := 122) rfl (hb hby d12_45) rfl (flt hroom0).2.1 (by decide) (by decide) k_) ?_
      show own_Go _ _ _ _ (T0.setTop (mkF m 122 #[.val (.ref r0), .val (.int p1), .val (.int (Int32.ofNat t)), .val (.ref r3), .val (.int (Int32.ofNat fs.length)), .val (.int (Int32.ofNat st)), .val (.int (1 : Int32)), .val (.int (Int32.ofNat en)), s8, s9] []))
      exact tail _ _ cc (own_first bl (en - st) st, own_last bl (own_first bl (en - st) st) (en - own_first bl (en - st) st)) _ _ A0 o8 o9 V0 V3 (B3.full (by have := own_nge (by omega) (by omega) hroom0; omega) _) KP (by rw [own_fields, hE])
theorem ef_12 (m : MethodId) (r0 : Addr) (p1 : Int32) (p2 : Int32) (r3 : Addr) : entryFrame m #[(.ref r0), (.int p1), (.int p2), (.ref r3)] 10 = mkF m 0 #[.val (.ref r0), .val (.int p1), .val (.int p2), .val (.ref r3), .unset, .unset, .unset, .unset, .unset, .unset] [] := by first | (simp [entryFrame, mkF, argsToLocals, Value.category]; done) | rfl
theorem d12_0 : decode prog_13_method_11_code 0 = .ok (.iconst 0, 1) := by decide +kernel
theorem d12_1 : decode prog_13_method_11_code 1 = .ok (.istore 4, 2) := by decide +kernel
theorem d12_3 : decode prog_13_method_11_code 3 = .ok (.iload_n 1, 1) := by decide +kernel
theorem d12_4 : decode prog_13_method_11_code 4 = .ok (.istore 5, 2) := by decide +kernel
theorem d12_6 : decode prog_13_method_11_code 6 = .ok (.iconst 1, 1) := by decide +kernel
theorem d12_7 : decode prog_13_method_11_code 7 = .ok (.istore 6, 2) := by decide +kernel
set_option maxRecDepth 65536 in
set_option maxHeartbeats 40000000 in
theorem rm12 (l : Launch) (Z : State) (a0 : Array Value) (hw : ∀ d ∈ tables_1, d.before a0 Z = true) (r0 r3 : Addr) (i0 t q : Nat) (nb : Int32) (fb fl : Int32 → Int32) (cm bl : Nat → Bool) (h0 : Heap) (n0 : Nat) (ht : (t : Int) ≤ nb.toInt) (htb : t < 2 ^ 29) (HC : own_Cls cm bl t fb) (hq : 2 * q < 2 ^ 30) (hi : i0 ≤ t) (V0 : own_Arr Z h0 r0 .byte nb fb) (V3 : own_Arr Z h0 r3 .int (Int32.ofNat (2 * q)) fl) (ne : r0 ≠ r3) (g3 : n0 ≤ r3) :
    own_Met l Z n0 (⟨"com/example/indexloom/indexloom/data/DataHeader", "split", "([BII[I)I"⟩ : MethodName) prog_13_method_11_code 10 (some .int) ({ frames := 1, cells := 0, slots := 0, locals := 12 } : Room) #[(.ref r0), (.int (Int32.ofNat i0)), (.int (Int32.ofNat t)), (.ref r3)] h0 (fun v h => v = some (.int (Int32.ofNat (own_fields cm bl t (t - i0 + 1) i0).length)) ∧ Keep h0 h [r3] ∧ ∃ c, own_Arr Z h r3 .int (Int32.ofNat (2 * q)) c ∧ own_Bd q (own_fields cm bl t (t - i0 + 1) i0) fl c) := by
  refine own_met (plainFor_of_name pn_13) ?_
  intro p e s m below meth c T0 hx hby hml hown hnm hret hlk hZ A0
  rw [ef_12]
  show own_Go _ _ _ _ (T0.setTop (mkF m 0 #[.val (.ref r0), .val (.int (Int32.ofNat i0)), .val (.int (Int32.ofNat t)), .val (.ref r3), .unset, .unset, .unset, .unset, .unset, .unset] []))
  refine own_go (fun t_ k_ => XS.iconst A0.here hx rfl (hb hby d12_0) k_) ?_
  show own_Go _ _ _ _ (T0.setTop (mkF m 1 #[.val (.ref r0), .val (.int (Int32.ofNat i0)), .val (.int (Int32.ofNat t)), .val (.ref r3), .unset, .unset, .unset, .unset, .unset, .unset] [(.int (0 : Int32))]))
  refine own_go (fun t_ k_ => XS.istore A0.here hx rfl (hb hby d12_1) rfl (l' := #[.val (.ref r0), .val (.int (Int32.ofNat i0)), .val (.int (Int32.ofNat t)), .val (.ref r3), .val (.int (0 : Int32)), .unset, .unset, .unset, .unset, .unset]) rfl k_) ?_
  show own_Go _ _ _ _ (T0.setTop (mkF m 3 #[.val (.ref r0), .val (.int (Int32.ofNat i0)), .val (.int (Int32.ofNat t)), .val (.ref r3), .val (.int (0 : Int32)), .unset, .unset, .unset, .unset, .unset] []))
  refine own_go (fun t_ k_ => XS.iloadN A0.here hx rfl (hb hby d12_3) rfl k_) ?_
  show own_Go _ _ _ _ (T0.setTop (mkF m 4 #[.val (.ref r0), .val (.int (Int32.ofNat i0)), .val (.int (Int32.ofNat t)), .val (.ref r3), .val (.int (0 : Int32)), .unset, .unset, .unset, .unset, .unset] [(.int (Int32.ofNat i0))]))
  refine own_go (fun t_ k_ => XS.istore A0.here hx rfl (hb hby d12_4) rfl (l' := #[.val (.ref r0), .val (.int (Int32.ofNat i0)), .val (.int (Int32.ofNat t)), .val (.ref r3), .val (.int (0 : Int32)), .val (.int (Int32.ofNat i0)), .unset, .unset, .unset, .unset]) rfl k_) ?_
  show own_Go _ _ _ _ (T0.setTop (mkF m 6 #[.val (.ref r0), .val (.int (Int32.ofNat i0)), .val (.int (Int32.ofNat t)), .val (.ref r3), .val (.int (0 : Int32)), .val (.int (Int32.ofNat i0)), .unset, .unset, .unset, .unset] []))
  refine own_go (fun t_ k_ => XS.iconst A0.here hx rfl (hb hby d12_6) k_) ?_
  show own_Go _ _ _ _ (T0.setTop (mkF m 7 #[.val (.ref r0), .val (.int (Int32.ofNat i0)), .val (.int (Int32.ofNat t)), .val (.ref r3), .val (.int (0 : Int32)), .val (.int (Int32.ofNat i0)), .unset, .unset, .unset, .unset] [(.int (1 : Int32))]))
  refine own_go (fun t_ k_ => XS.istore A0.here hx rfl (hb hby d12_7) rfl (l' := #[.val (.ref r0), .val (.int (Int32.ofNat i0)), .val (.int (Int32.ofNat t)), .val (.ref r3), .val (.int (0 : Int32)), .val (.int (Int32.ofNat i0)), .val (.int (1 : Int32)), .unset, .unset, .unset]) rfl k_) ?_
  show own_Go _ _ _ _ (T0.setTop (mkF m 9 #[.val (.ref r0), .val (.int (Int32.ofNat i0)), .val (.int (Int32.ofNat t)), .val (.ref r3), .val (.int (0 : Int32)), .val (.int (Int32.ofNat i0)), .val (.int (1 : Int32)), .unset, .unset, .unset] []))
  exact own_lpO hx hby hml hown hret hlk hZ hw r0 r3 _ t q nb fb fl cm bl ht htb HC hq ne g3 (t - i0 + 1) i0 [] h0 fl _ _ _ _ A0 (by omega) hi (Nat.zero_le _) One.u One.u One.u V0 V3 (fun j _ => ⟨rfl, rfl⟩) (Keep.refl _ _)
theorem own_clsH : own_Cls (fun i => decide (False)) (fun _ => false) 1 (fun j => ([99] : List Int32).getD j.toNatClampNeg 0) := by
  intro i hi
  rcases (by omega : i = 0) with rfl <;> exact ⟨by decide +kernel, by decide +kernel⟩
theorem ef_4 (m : MethodId) (r0 : Addr) (r1 : Addr) (r2 : Addr) : entryFrame m #[(.ref r0), (.ref r1), (.ref r2)] 6 = mkF m 0 #[.val (.ref r0), .val (.ref r1), .val (.ref r2), .unset, .unset, .unset] [] := by first | (simp [entryFrame, mkF, argsToLocals, Value.category]; done) | rfl
theorem d4_0 : decode prog_13_method_1_code 0 = .ok (.aload_n 0, 1) := by decide +kernel
theorem d4_1 : decode prog_13_method_1_code 1 = .ok (.invokespecial 1, 3) := by decide +kernel
theorem d4_4 : decode prog_13_method_1_code 4 = .ok (.aload_n 2, 1) := by decide +kernel
theorem d4_5 : decode prog_13_method_1_code 5 = .ok (.getstatic 7, 3) := by decide +kernel
theorem d4_8 : decode prog_13_method_1_code 8 = .ok (.invokevirtual 13, 3) := by decide +kernel
theorem pd__Ljava_nio_charset_Charset___B : parseMethodDescriptor "(Ljava/nio/charset/Charset;)[B" = some ⟨[(.object "java/nio/charset/Charset")], some (.array .byte)⟩ := by decide +kernel
theorem d4_11 : decode prog_13_method_1_code 11 = .ok (.astore_n 3, 1) := by decide +kernel
theorem d4_12 : decode prog_13_method_1_code 12 = .ok (.iconst 2, 1) := by decide +kernel
theorem d4_13 : decode prog_13_method_1_code 13 = .ok (.aload_n 3, 1) := by decide +kernel
theorem d4_14 : decode prog_13_method_1_code 14 = .ok (.iconst 0, 1) := by decide +kernel
theorem d4_15 : decode prog_13_method_1_code 15 = .ok (.aload_n 3, 1) := by decide +kernel
theorem d4_16 : decode prog_13_method_1_code 16 = .ok (.arraylength, 1) := by decide +kernel
theorem d4_17 : decode prog_13_method_1_code 17 = .ok (.iconst 0, 1) := by decide +kernel
theorem d4_18 : decode prog_13_method_1_code 18 = .ok (.newarray .int, 2) := by decide +kernel
theorem d4_20 : decode prog_13_method_1_code 20 = .ok (.invokestatic 19, 3) := by decide +kernel
theorem pd___BII_I_I : parseMethodDescriptor "([BII[I)I" = some ⟨[(.array .byte), .int, .int, (.array .int)], some .int⟩ := by decide +kernel
theorem d4_23 : decode prog_13_method_1_code 23 = .ok (.imul, 1) := by decide +kernel
theorem d4_24 : decode prog_13_method_1_code 24 = .ok (.newarray .int, 2) := by decide +kernel
theorem d4_26 : decode prog_13_method_1_code 26 = .ok (.astore 4, 2) := by decide +kernel
theorem d4_28 : decode prog_13_method_1_code 28 = .ok (.aload_n 3, 1) := by decide +kernel
theorem d4_29 : decode prog_13_method_1_code 29 = .ok (.iconst 0, 1) := by decide +kernel
theorem d4_30 : decode prog_13_method_1_code 30 = .ok (.aload_n 3, 1) := by decide +kernel
theorem d4_31 : decode prog_13_method_1_code 31 = .ok (.arraylength, 1) := by decide +kernel
theorem d4_32 : decode prog_13_method_1_code 32 = .ok (.aload 4, 2) := by decide +kernel
theorem d4_34 : decode prog_13_method_1_code 34 = .ok (.invokestatic 19, 3) := by decide +kernel
theorem d4_37 : decode prog_13_method_1_code 37 = .ok (.pop, 1) := by decide +kernel
theorem d4_38 : decode prog_13_method_1_code 38 = .ok (.aload_n 0, 1) := by decide +kernel
theorem d4_39 : decode prog_13_method_1_code 39 = .ok (.aload_n 1, 1) := by decide +kernel
theorem d4_40 : decode prog_13_method_1_code 40 = .ok (.putfield 25, 3) := by decide +kernel
theorem d4_43 : decode prog_13_method_1_code 43 = .ok (.aload_n 0, 1) := by decide +kernel
theorem d4_44 : decode prog_13_method_1_code 44 = .ok (.aload 4, 2) := by decide +kernel
theorem d4_46 : decode prog_13_method_1_code 46 = .ok (.arraylength, 1) := by decide +kernel
theorem d4_47 : decode prog_13_method_1_code 47 = .ok (.iconst 2, 1) := by decide +kernel
theorem d4_48 : decode prog_13_method_1_code 48 = .ok (.idiv, 1) := by decide +kernel
theorem d4_49 : decode prog_13_method_1_code 49 = .ok (.anewarray 14, 3) := by decide +kernel
theorem d4_52 : decode prog_13_method_1_code 52 = .ok (.putfield 29, 3) := by decide +kernel
theorem d4_55 : decode prog_13_method_1_code 55 = .ok (.iconst 0, 1) := by decide +kernel
theorem d4_56 : decode prog_13_method_1_code 56 = .ok (.istore 5, 2) := by decide +kernel
theorem d4_58 : decode prog_13_method_1_code 58 = .ok (.iload 5, 2) := by decide +kernel
theorem d4_60 : decode prog_13_method_1_code 60 = .ok (.aload_n 0, 1) := by decide +kernel
theorem d4_61 : decode prog_13_method_1_code 61 = .ok (.getfield 29, 3) := by decide +kernel
theorem d4_64 : decode prog_13_method_1_code 64 = .ok (.arraylength, 1) := by decide +kernel
theorem d4_65 : decode prog_13_method_1_code 65 = .ok (.if_icmp .ge 51, 3) := by decide +kernel
theorem d4_68 : decode prog_13_method_1_code 68 = .ok (.aload_n 0, 1) := by decide +kernel
theorem d4_69 : decode prog_13_method_1_code 69 = .ok (.getfield 29, 3) := by decide +kernel
theorem d4_72 : decode prog_13_method_1_code 72 = .ok (.iload 5, 2) := by decide +kernel
theorem d4_74 : decode prog_13_method_1_code 74 = .ok (.new 14, 3) := by decide +kernel
theorem d4_77 : decode prog_13_method_1_code 77 = .ok (.dup, 1) := by decide +kernel
theorem d4_78 : decode prog_13_method_1_code 78 = .ok (.aload_n 3, 1) := by decide +kernel
theorem d4_79 : decode prog_13_method_1_code 79 = .ok (.aload 4, 2) := by decide +kernel
theorem d4_81 : decode prog_13_method_1_code 81 = .ok (.iconst 2, 1) := by decide +kernel
theorem d4_82 : decode prog_13_method_1_code 82 = .ok (.iload 5, 2) := by decide +kernel
theorem d4_84 : decode prog_13_method_1_code 84 = .ok (.imul, 1) := by decide +kernel
theorem d4_85 : decode prog_13_method_1_code 85 = .ok (.iaload, 1) := by decide +kernel
theorem d4_86 : decode prog_13_method_1_code 86 = .ok (.aload 4, 2) := by decide +kernel
theorem d4_88 : decode prog_13_method_1_code 88 = .ok (.iconst 2, 1) := by decide +kernel
theorem d4_89 : decode prog_13_method_1_code 89 = .ok (.iload 5, 2) := by decide +kernel
theorem d4_91 : decode prog_13_method_1_code 91 = .ok (.imul, 1) := by decide +kernel
theorem d4_92 : decode prog_13_method_1_code 92 = .ok (.iconst 1, 1) := by decide +kernel
theorem d4_93 : decode prog_13_method_1_code 93 = .ok (.iadd, 1) := by decide +kernel
theorem d4_94 : decode prog_13_method_1_code 94 = .ok (.iaload, 1) := by decide +kernel
theorem d4_95 : decode prog_13_method_1_code 95 = .ok (.aload 4, 2) := by decide +kernel
theorem d4_97 : decode prog_13_method_1_code 97 = .ok (.iconst 2, 1) := by decide +kernel
theorem d4_98 : decode prog_13_method_1_code 98 = .ok (.iload 5, 2) := by decide +kernel
theorem d4_100 : decode prog_13_method_1_code 100 = .ok (.imul, 1) := by decide +kernel
theorem d4_101 : decode prog_13_method_1_code 101 = .ok (.iaload, 1) := by decide +kernel
theorem d4_102 : decode prog_13_method_1_code 102 = .ok (.isub, 1) := by decide +kernel
theorem d4_103 : decode prog_13_method_1_code 103 = .ok (.getstatic 7, 3) := by decide +kernel
theorem d4_106 : decode prog_13_method_1_code 106 = .ok (.invokespecial 33, 3) := by decide +kernel
theorem pd___BIILjava_nio_charset_Charset__V : parseMethodDescriptor "([BIILjava/nio/charset/Charset;)V" = some ⟨[(.array .byte), .int, .int, (.object "java/nio/charset/Charset")], none⟩ := by decide +kernel
theorem d4_109 : decode prog_13_method_1_code 109 = .ok (.aastore, 1) := by decide +kernel
theorem d4_110 : decode prog_13_method_1_code 110 = .ok (.iinc 5 1, 3) := by decide +kernel
theorem d4_113 : decode prog_13_method_1_code 113 = .ok (.goto (-55), 3) := by decide +kernel
theorem d4_116 : decode prog_13_method_1_code 116 = .ok (.return_, 1) := by decide +kernel
set_option maxRecDepth 65536 in
set_option maxHeartbeats 40000000 in
theorem rm4 (l : Launch) (Z : State) (a0 : Array Value) (hw : ∀ d ∈ tables_1, d.before a0 Z = true) (r0 : Addr) (r1 : Addr) (r2 : Addr) (t2 : Addr) (u8 : Addr) (z_C : Int32) (s_F : Value) (h0 : Heap) (n0 : Nat) (O0 : Old Z n0 h0) (Z0 : n0 ≤ h0.size) (Eh : Exa Z h0 r0 "com/example/indexloom/indexloom/data/DataHeader") (Ff : Fld Z h0 r0 "com/example/indexloom/indexloom/data/DataHeader" "file" "Ljava/lang/String;" .null) (Fn : Fld Z h0 r0 "com/example/indexloom/indexloom/data/DataHeader" "names" "[Ljava/lang/String;" .null) (g0 : n0 ≤ r0) (E0 : Exa Z h0 r2 "java/lang/String") (Fc : Fld Z h0 r2 "java/lang/String" "coder" "B" (.int (0 : Int32))) (Fv : Fld Z h0 r2 "java/lang/String" "value" "[B" (.ref t2)) (Vs : own_Arr Z h0 t2 .byte (1 : Int32) (fun j => ([99] : List Int32).getD j.toNatClampNeg 0)) (Es : Exa Z h0 t2 "[B") (hz : ¬ z_C = 0) (hr_F : s_F.isRef = true) (EU8 : Exa Z Z.heap u8 "sun/nio/cs/UTF_8") (S_UTF_8 : Sta Z Z.heap "java/nio/charset/StandardCharsets" "UTF_8" "Ljava/nio/charset/Charset;" (.ref u8)) (S_INSTANCE : Sta Z Z.heap "sun/nio/cs/UTF_8" "INSTANCE" "Lsun/nio/cs/UTF_8;" (.ref u8)) (S_COMPACT_STRINGS : Sta Z Z.heap "java/lang/String" "COMPACT_STRINGS" "Z" (.int z_C)) (S_SIOOBE_FORMATTER : Sta Z Z.heap "jdk/internal/util/Preconditions" "SIOOBE_FORMATTER" "Ljava/util/function/BiFunction;" s_F) :
    own_Met l Z n0 (⟨"com/example/indexloom/indexloom/data/DataHeader", "<init>", "(Ljava/lang/String;Ljava/lang/String;)V"⟩ : MethodName) prog_13_method_1_code 6 none ({ frames := 5, cells := 6, slots := 9, locals := 77 } : Room) #[(.ref r0), (.ref r1), (.ref r2)] h0 (fun v h => v = none ∧ Keep h0 h [r0] ∧ ∃ ar, n0 ≤ ar ∧ h0.size ≤ ar ∧ Fld Z h r0 "com/example/indexloom/indexloom/data/DataHeader" "names" "[Ljava/lang/String;" (.ref ar) ∧ own_ArrR Z h ar "java/lang/String" (1 : Int32)) := by
  refine own_met (plainFor_of_name pn_13) ?_
  intro p e s m below meth c T0 hx hby hml hown hnm hret hlk hZ A0
  rw [ef_4]
  show own_Go _ _ _ _ (T0.setTop (mkF m 0 #[.val (.ref r0), .val (.ref r1), .val (.ref r2), .unset, .unset, .unset] []))
  refine own_go (fun t_ k_ => XS.aloadN A0.here hx rfl (hb hby d4_0) rfl rfl k_) ?_
  show own_Go _ _ _ _ (T0.setTop (mkF m 1 #[.val (.ref r0), .val (.ref r1), .val (.ref r2), .unset, .unset, .unset] [(.ref r0)]))
  refine own_initO A0 hx hZ hown (hw _ (List.mem_of_getElem? (i := 27) rfl)) (hw _ (List.mem_of_getElem? (i := 28) rfl)) (hw _ (List.mem_of_getElem? (i := 29) rfl)) rfl (by rw [hml]; rfl) rfl (hb hby d4_1) (by decide) 0 (by show 2 * 0 + _ ≤ _; exact Nat.le_of_eq rfl) (by decide) (fun T1 A2 => ?_)
  show own_Go _ _ _ _ (T1.setTop (mkF m 4 #[.val (.ref r0), .val (.ref r1), .val (.ref r2), .unset, .unset, .unset] []))
  refine own_go (fun t_ k_ => XS.aloadN A2.here hx rfl (hb hby d4_4) rfl rfl k_) ?_
  show own_Go _ _ _ _ (T1.setTop (mkF m 5 #[.val (.ref r0), .val (.ref r1), .val (.ref r2), .unset, .unset, .unset] [(.ref r2)]))
  refine own_getS A2 hx hZ hown (host := "") (Or.inl (hw _ (List.mem_of_getElem? (i := 30) rfl))) Via.refl (S_UTF_8.ext O0.2) rfl (hb hby d4_5) (fun T3 A4 => ?_)
  show own_Go _ _ _ _ (T3.setTop (mkF m 8 #[.val (.ref r0), .val (.ref r1), .val (.ref r2), .unset, .unset, .unset] [(.ref u8), (.ref r2)]))
  refine own_callV A4 hx hZ (y := (⟨"java/lang/String", "getBytes", "(Ljava/nio/charset/Charset;)[B"⟩ : MethodName)) (z := (⟨"java/lang/String", "getBytes", "(Ljava/nio/charset/Charset;)[B"⟩ : MethodName)) hown (hw _ (List.mem_of_getElem? (i := 32) rfl)) (hw _ (List.mem_of_getElem? (i := 33) rfl)) (hw _ (List.mem_of_getElem? (i := 35) rfl)) (hw _ (List.mem_of_getElem? (i := 34) rfl)) (hw _ (List.mem_of_getElem? (i := 17) rfl)) (hw _ (List.mem_of_getElem? (i := 36) rfl)) (notFace_of_selects (args := #[]) (mvT hZ (hw _ (List.mem_of_getElem? (i := 35) rfl)))) (by decide) (b := r2) (argsL := [(.ref u8)]) (rest := []) E0 (rm6 l Z a0 hw r2 u8 t2 z_C h0 n0 O0 Z0 hz E0 Fc Fv Vs Es S_COMPACT_STRINGS S_INSTANCE) 0 (by decide) (by decide) rfl (by rw [hml]; rfl) (lenOf pd__Ljava_nio_charset_Charset___B rfl) rfl (by show 2 * 0 + _ ≤ _; exact Nat.le_of_eq rfl) (hb hby d4_8) (by decide) (by decide) (fun v8 T5 h7 A6 hQ9 => ?_)
  obtain ⟨K10, t11, rfl, gt12, nt13, V14, E15⟩ := hQ9
  have ne_r0_t11 : r0 ≠ t11 := Nat.ne_of_lt (Nat.lt_of_lt_of_le Eh.lt nt13)
  have ne_r2_t11 : r2 ≠ t11 := Nat.ne_of_lt (Nat.lt_of_lt_of_le E0.lt nt13)
  have ne_t2_t11 : t2 ≠ t11 := Nat.ne_of_lt (Nat.lt_of_lt_of_le Vs.lt nt13)
  have nw_t11 : h0.size ≤ t11 := Nat.le_trans (Keep.refl h0 [r0]).1 nt13
  have O16 : Old Z n0 h7 := O0.keep K10 all0
  have Z17 : n0 ≤ h7.size := Nat.le_trans Z0 K10.1
  have E18 : Exa Z h7 r0 "com/example/indexloom/indexloom/data/DataHeader" := Eh.keep K10
  have F19 : Fld Z h7 r0 "com/example/indexloom/indexloom/data/DataHeader" "file" "Ljava/lang/String;" .null := Ff.keep K10 nin0
  have F20 : Fld Z h7 r0 "com/example/indexloom/indexloom/data/DataHeader" "names" "[Ljava/lang/String;" .null := Fn.keep K10 nin0
  have K21 : Keep h0 h7 [r0] := (Keep.refl h0 [r0]).trans K10 all0
  have E22 : Exa Z h7 r2 "java/lang/String" := E0.keep K10
  have F23 : Fld Z h7 r2 "java/lang/String" "coder" "B" (.int (0 : Int32)) := Fc.keep K10 nin0
  have F24 : Fld Z h7 r2 "java/lang/String" "value" "[B" (.ref t2) := Fv.keep K10 nin0
  have V25 : own_Arr Z h7 t2 .byte (1 : Int32) (fun j => ([99] : List Int32).getD j.toNatClampNeg 0) := Vs.keep K10 nin0
  have E26 : Exa Z h7 t2 "[B" := Es.keep K10
  show own_Go _ _ _ _ (T5.setTop (mkF m 11 #[.val (.ref r0), .val (.ref r1), .val (.ref r2), .unset, .unset, .unset] [(.ref t11)]))
  refine own_go (fun t_ k_ => XS.astoreN A6.here hx rfl (hb hby d4_11) rfl rfl (l' := #[.val (.ref r0), .val (.ref r1), .val (.ref r2), .val (.ref t11), .unset, .unset]) rfl k_) ?_
  show own_Go _ _ _ _ (T5.setTop (mkF m 12 #[.val (.ref r0), .val (.ref r1), .val (.ref r2), .val (.ref t11), .unset, .unset] []))
  refine own_go (fun t_ k_ => XS.iconst A6.here hx rfl (hb hby d4_12) k_) ?_
  show own_Go _ _ _ _ (T5.setTop (mkF m 13 #[.val (.ref r0), .val (.ref r1), .val (.ref r2), .val (.ref t11), .unset, .unset] [(.int (2 : Int32))]))
  refine own_go (fun t_ k_ => XS.aloadN A6.here hx rfl (hb hby d4_13) rfl rfl k_) ?_
  show own_Go _ _ _ _ (T5.setTop (mkF m 14 #[.val (.ref r0), .val (.ref r1), .val (.ref r2), .val (.ref t11), .unset, .unset] [(.ref t11), (.int (2 : Int32))]))
  refine own_go (fun t_ k_ => XS.iconst A6.here hx rfl (hb hby d4_14) k_) ?_
  show own_Go _ _ _ _ (T5.setTop (mkF m 15 #[.val (.ref r0), .val (.ref r1), .val (.ref r2), .val (.ref t11), .unset, .unset] [(.int (0 : Int32)), (.ref t11), (.int (2 : Int32))]))
  refine own_go (fun t_ k_ => XS.aloadN A6.here hx rfl (hb hby d4_15) rfl rfl k_) ?_
  show own_Go _ _ _ _ (T5.setTop (mkF m 16 #[.val (.ref r0), .val (.ref r1), .val (.ref r2), .val (.ref t11), .unset, .unset] [(.ref t11), (.int (0 : Int32)), (.ref t11), (.int (2 : Int32))]))
  refine own_len A6 hx hZ V14 rfl rfl (hb hby d4_16) ?_
  show own_Go _ _ _ _ (T5.setTop (mkF m 17 #[.val (.ref r0), .val (.ref r1), .val (.ref r2), .val (.ref t11), .unset, .unset] [(.int (1 : Int32)), (.int (0 : Int32)), (.ref t11), (.int (2 : Int32))]))
  refine own_go (fun t_ k_ => XS.iconst A6.here hx rfl (hb hby d4_17) k_) ?_
  show own_Go _ _ _ _ (T5.setTop (mkF m 18 #[.val (.ref r0), .val (.ref r1), .val (.ref r2), .val (.ref t11), .unset, .unset] [(.int (0 : Int32)), (.int (1 : Int32)), (.int (0 : Int32)), (.ref t11), (.int (2 : Int32))]))
  refine own_newP A6 hx hZ (hw _ (List.mem_of_getElem? (i := 69) rfl)) rfl rfl (hb hby d4_18) rfl (by decide) 0 (by decide) (by decide) (by decide) (by decide) (fun T27 h29 b30 ha_b30 A28 E31 V32 R33 => ?_)
  have ne_r0_b30 : r0 ≠ b30 := Nat.ne_of_lt (by rw [ha_b30]; exact E18.lt)
  have ne_t11_b30 : t11 ≠ b30 := Nat.ne_of_lt (by rw [ha_b30]; exact V14.lt)
  have g_b30 : n0 ≤ b30 := by rw [ha_b30]; exact Z17
  have nw_b30 : h0.size ≤ b30 := by rw [ha_b30]; exact K21.1
  have O34 : Old Z n0 h29 := O16.ext E31
  have Z35 : n0 ≤ h29.size := Nat.le_trans Z17 E31.1
  have E36 : Exa Z h29 r0 "com/example/indexloom/indexloom/data/DataHeader" := E18.ext E31
  have F37 : Fld Z h29 r0 "com/example/indexloom/indexloom/data/DataHeader" "file" "Ljava/lang/String;" .null := F19.ext E31
  have F38 : Fld Z h29 r0 "com/example/indexloom/indexloom/data/DataHeader" "names" "[Ljava/lang/String;" .null := F20.ext E31
  have K39 : Keep h0 h29 [r0] := K21.ext E31
  have V40 : own_Arr Z h29 t11 .byte (1 : Int32) (fun j => ([99] : List Int32).getD j.toNatClampNeg 0) := V14.ext E31
  have E41 : Exa Z h29 t11 "[B" := E15.ext E31
  show own_Go _ _ _ _ (T27.setTop (mkF m 20 #[.val (.ref r0), .val (.ref r1), .val (.ref r2), .val (.ref t11), .unset, .unset] [(.ref b30), (.int (1 : Int32)), (.int (0 : Int32)), (.ref t11), (.int (2 : Int32))]))
  refine own_callS A28 hx hZ hown (y := (⟨"com/example/indexloom/indexloom/data/DataHeader", "split", "([BII[I)I"⟩ : MethodName)) (hw _ (List.mem_of_getElem? (i := 70) rfl)) (hw _ (List.mem_of_getElem? (i := 71) rfl)) (hw _ (List.mem_of_getElem? (i := 15) rfl)) (hw _ (List.mem_of_getElem? (i := 72) rfl)) (by decide) (argsL := [(.ref t11), (.int (0 : Int32)), (.int (1 : Int32)), (.ref b30)]) (rest := [(.int (2 : Int32))]) (rm12 l Z a0 hw t11 b30 0 1 0 (1 : Int32) (fun j => ([99] : List Int32).getD j.toNatClampNeg 0) (fun _ => 0) (fun i => decide (False)) (fun _ => false) h29 n0 (by decide) (by decide) own_clsH (by decide) (by decide) V40 V32 ne_t11_b30 g_b30) 1 (by decide) (by decide) rfl (by rw [hml]; rfl) (lenOf pd___BII_I_I rfl) rfl (by show 2 * 0 + _ ≤ _; exact Nat.le_of_eq rfl) (hb hby d4_20) (by decide) (by decide) (fun v45 T42 h44 A43 hQ46 => ?_)
  obtain ⟨rfl, K47, c48, V49, B50⟩ := hQ46
  have O51 : Old Z n0 h44 := O34.keep K47 (allS g_b30 all0)
  have Z52 : n0 ≤ h44.size := Nat.le_trans Z35 K47.1
  have E53 : Exa Z h44 r0 "com/example/indexloom/indexloom/data/DataHeader" := E36.keep K47
  have F54 : Fld Z h44 r0 "com/example/indexloom/indexloom/data/DataHeader" "file" "Ljava/lang/String;" .null := F37.keep K47 (ninS ne_r0_b30 nin0)
  have F55 : Fld Z h44 r0 "com/example/indexloom/indexloom/data/DataHeader" "names" "[Ljava/lang/String;" .null := F38.keep K47 (ninS ne_r0_b30 nin0)
  have K56 : Keep h0 h44 [r0] := K39.trans K47 (allS (Or.inr nw_b30) all0)
  have V57 : own_Arr Z h44 t11 .byte (1 : Int32) (fun j => ([99] : List Int32).getD j.toNatClampNeg 0) := V40.keep K47 (ninS ne_t11_b30 nin0)
  have E58 : Exa Z h44 t11 "[B" := E41.keep K47
  rw [show Int32.ofNat (own_fields (fun i => decide (False)) (fun _ => false) 1 (1 - 0 + 1) 0).length = (1 : Int32) from by decide +kernel]
  show own_Go _ _ _ _ (T42.setTop (mkF m 23 #[.val (.ref r0), .val (.ref r1), .val (.ref r2), .val (.ref t11), .unset, .unset] [(.int (1 : Int32)), (.int (2 : Int32))]))
  refine own_go (fun t_ k_ => XS.imul A43.here hx rfl (hb hby d4_23) rfl k_) ?_
  show own_Go _ _ _ _ (T42.setTop (mkF m 24 #[.val (.ref r0), .val (.ref r1), .val (.ref r2), .val (.ref t11), .unset, .unset] [(.int (2 : Int32))]))
  refine own_newP A43 hx hZ (hw _ (List.mem_of_getElem? (i := 69) rfl)) rfl rfl (hb hby d4_24) rfl (by decide) 2 (by decide) (by decide) (by decide) (by decide) (fun T59 h61 b62 ha_b62 A60 E63 V64 R65 => ?_)
  have ne_r0_b62 : r0 ≠ b62 := Nat.ne_of_lt (by rw [ha_b62]; exact E53.lt)
  have ne_t11_b62 : t11 ≠ b62 := Nat.ne_of_lt (by rw [ha_b62]; exact V57.lt)
  have ne_b30_b62 : b30 ≠ b62 := Nat.ne_of_lt (by rw [ha_b62]; exact V49.lt)
  have g_b62 : n0 ≤ b62 := by rw [ha_b62]; exact Z52
  have nw_b62 : h0.size ≤ b62 := by rw [ha_b62]; exact K56.1
  have O66 : Old Z n0 h61 := O51.ext E63
  have Z67 : n0 ≤ h61.size := Nat.le_trans Z52 E63.1
  have E68 : Exa Z h61 r0 "com/example/indexloom/indexloom/data/DataHeader" := E53.ext E63
  have F69 : Fld Z h61 r0 "com/example/indexloom/indexloom/data/DataHeader" "file" "Ljava/lang/String;" .null := F54.ext E63
  have F70 : Fld Z h61 r0 "com/example/indexloom/indexloom/data/DataHeader" "names" "[Ljava/lang/String;" .null := F55.ext E63
  have K71 : Keep h0 h61 [r0] := K56.ext E63
  have V72 : own_Arr Z h61 t11 .byte (1 : Int32) (fun j => ([99] : List Int32).getD j.toNatClampNeg 0) := V57.ext E63
  have E73 : Exa Z h61 t11 "[B" := E58.ext E63
  have V74 : own_Arr Z h61 b30 .int (0 : Int32) c48 := V49.ext E63
  show own_Go _ _ _ _ (T59.setTop (mkF m 26 #[.val (.ref r0), .val (.ref r1), .val (.ref r2), .val (.ref t11), .unset, .unset] [(.ref b62)]))
  refine own_go (fun t_ k_ => XS.astore A60.here hx rfl (hb hby d4_26) rfl rfl (l' := #[.val (.ref r0), .val (.ref r1), .val (.ref r2), .val (.ref t11), .val (.ref b62), .unset]) rfl k_) ?_
  show own_Go _ _ _ _ (T59.setTop (mkF m 28 #[.val (.ref r0), .val (.ref r1), .val (.ref r2), .val (.ref t11), .val (.ref b62), .unset] []))
  refine own_go (fun t_ k_ => XS.aloadN A60.here hx rfl (hb hby d4_28) rfl rfl k_) ?_
  show own_Go _ _ _ _ (T59.setTop (mkF m 29 #[.val (.ref r0), .val (.ref r1), .val (.ref r2), .val (.ref t11), .val (.ref b62), .unset] [(.ref t11)]))
  refine own_go (fun t_ k_ => XS.iconst A60.here hx rfl (hb hby d4_29) k_) ?_
  show own_Go _ _ _ _ (T59.setTop (mkF m 30 #[.val (.ref r0), .val (.ref r1), .val (.ref r2), .val (.ref t11), .val (.ref b62), .unset] [(.int (0 : Int32)), (.ref t11)]))
  refine own_go (fun t_ k_ => XS.aloadN A60.here hx rfl (hb hby d4_30) rfl rfl k_) ?_
  show own_Go _ _ _ _ (T59.setTop (mkF m 31 #[.val (.ref r0), .val (.ref r1), .val (.ref r2), .val (.ref t11), .val (.ref b62), .unset] [(.ref t11), (.int (0 : Int32)), (.ref t11)]))
  refine own_len A60 hx hZ V72 rfl rfl (hb hby d4_31) ?_
  show own_Go _ _ _ _ (T59.setTop (mkF m 32 #[.val (.ref r0), .val (.ref r1), .val (.ref r2), .val (.ref t11), .val (.ref b62), .unset] [(.int (1 : Int32)), (.int (0 : Int32)), (.ref t11)]))
  refine own_go (fun t_ k_ => XS.aload A60.here hx rfl (hb hby d4_32) rfl rfl k_) ?_
  show own_Go _ _ _ _ (T59.setTop (mkF m 34 #[.val (.ref r0), .val (.ref r1), .val (.ref r2), .val (.ref t11), .val (.ref b62), .unset] [(.ref b62), (.int (1 : Int32)), (.int (0 : Int32)), (.ref t11)]))
  refine own_callS A60 hx hZ hown (y := (⟨"com/example/indexloom/indexloom/data/DataHeader", "split", "([BII[I)I"⟩ : MethodName)) (hw _ (List.mem_of_getElem? (i := 70) rfl)) (hw _ (List.mem_of_getElem? (i := 71) rfl)) (hw _ (List.mem_of_getElem? (i := 15) rfl)) (hw _ (List.mem_of_getElem? (i := 72) rfl)) (by decide) (argsL := [(.ref t11), (.int (0 : Int32)), (.int (1 : Int32)), (.ref b62)]) (rest := []) (rm12 l Z a0 hw t11 b62 0 1 1 (1 : Int32) (fun j => ([99] : List Int32).getD j.toNatClampNeg 0) (fun _ => 0) (fun i => decide (False)) (fun _ => false) h61 n0 (by decide) (by decide) own_clsH (by decide) (by decide) V72 V64 ne_t11_b62 g_b62) 0 (by decide) (by decide) rfl (by rw [hml]; rfl) (lenOf pd___BII_I_I rfl) rfl (by show 2 * 0 + _ ≤ _; exact Nat.le_of_eq rfl) (hb hby d4_34) (by decide) (by decide) (fun v78 T75 h77 A76 hQ79 => ?_)
  obtain ⟨rfl, K80, c81, V82, B83⟩ := hQ79
  have O84 : Old Z n0 h77 := O66.keep K80 (allS g_b62 all0)
  have Z85 : n0 ≤ h77.size := Nat.le_trans Z67 K80.1
  have E86 : Exa Z h77 r0 "com/example/indexloom/indexloom/data/DataHeader" := E68.keep K80
  have F87 : Fld Z h77 r0 "com/example/indexloom/indexloom/data/DataHeader" "file" "Ljava/lang/String;" .null := F69.keep K80 (ninS ne_r0_b62 nin0)
  have F88 : Fld Z h77 r0 "com/example/indexloom/indexloom/data/DataHeader" "names" "[Ljava/lang/String;" .null := F70.keep K80 (ninS ne_r0_b62 nin0)
  have K89 : Keep h0 h77 [r0] := K71.trans K80 (allS (Or.inr nw_b62) all0)
  have V90 : own_Arr Z h77 t11 .byte (1 : Int32) (fun j => ([99] : List Int32).getD j.toNatClampNeg 0) := V72.keep K80 (ninS ne_t11_b62 nin0)
  have E91 : Exa Z h77 t11 "[B" := E73.keep K80
  have V92 : own_Arr Z h77 b30 .int (0 : Int32) c48 := V74.keep K80 (ninS ne_b30_b62 nin0)
  rw [show Int32.ofNat (own_fields (fun i => decide (False)) (fun _ => false) 1 (1 - 0 + 1) 0).length = (1 : Int32) from by decide +kernel]
  have hv93 : c81 (0 : Int32) = (0 : Int32) := (B83 0 (by decide)).1.trans (by decide +kernel)
  have hv94 : c81 (1 : Int32) = (1 : Int32) := (B83 0 (by decide)).2.trans (by decide +kernel)
  show own_Go _ _ _ _ (T75.setTop (mkF m 37 #[.val (.ref r0), .val (.ref r1), .val (.ref r2), .val (.ref t11), .val (.ref b62), .unset] [(.int (1 : Int32))]))
  refine own_go (fun t_ k_ => XS.pop A76.here hx rfl (hb hby d4_37) rfl rfl k_) ?_
  show own_Go _ _ _ _ (T75.setTop (mkF m 38 #[.val (.ref r0), .val (.ref r1), .val (.ref r2), .val (.ref t11), .val (.ref b62), .unset] []))
  refine own_go (fun t_ k_ => XS.aloadN A76.here hx rfl (hb hby d4_38) rfl rfl k_) ?_
  show own_Go _ _ _ _ (T75.setTop (mkF m 39 #[.val (.ref r0), .val (.ref r1), .val (.ref r2), .val (.ref t11), .val (.ref b62), .unset] [(.ref r0)]))
  refine own_go (fun t_ k_ => XS.aloadN A76.here hx rfl (hb hby d4_39) rfl rfl k_) ?_
  show own_Go _ _ _ _ (T75.setTop (mkF m 40 #[.val (.ref r0), .val (.ref r1), .val (.ref r2), .val (.ref t11), .val (.ref b62), .unset] [(.ref r1), (.ref r0)]))
  refine own_putF A76 hx hZ hown (host := "") (Or.inl (hw _ (List.mem_of_getElem? (i := 76) rfl))) Via.refl F87 E86 (Or.inr ⟨(hw _ (List.mem_of_getElem? (i := 77) rfl)), rfl, hnm⟩) (hw _ (List.mem_of_getElem? (i := 14) rfl)) (ty := (.object "java/lang/String")) (by decide) rfl rfl g0 rfl rfl (hb hby d4_40) (fun T95 h97 A96 W98 => ?_)
  have O99 : Old Z n0 h97 := O84.wr W98 g0
  have Z100 : n0 ≤ h97.size := Nat.le_trans Z85 (Nat.le_of_eq (Wr.size W98).symm)
  have E101 : Exa Z h97 r0 "com/example/indexloom/indexloom/data/DataHeader" := E86.wr W98
  have F102 : Fld Z h97 r0 "com/example/indexloom/indexloom/data/DataHeader" "file" "Ljava/lang/String;" (.ref r1) := F87.same W98
  have F103 : Fld Z h97 r0 "com/example/indexloom/indexloom/data/DataHeader" "names" "[Ljava/lang/String;" .null := F88.other W98 (Or.inr (slot_ne (Or.inr (hw _ (List.mem_of_getElem? (i := 81) rfl))) (Or.inr (hw _ (List.mem_of_getElem? (i := 77) rfl))) (by decide) (t := (.array (.object "java/lang/String"))) (t' := (.object "java/lang/String")) (by decide) (by decide)))
  have K104 : Keep h0 h97 [r0] := K89.wr W98 (Or.inl (List.mem_of_getElem? (i := 0) rfl))
  have V105 : own_Arr Z h97 t11 .byte (1 : Int32) (fun j => ([99] : List Int32).getD j.toNatClampNeg 0) := V90.other W98 (Ne.symm ne_r0_t11)
  have E106 : Exa Z h97 t11 "[B" := E91.wr W98
  have V107 : own_Arr Z h97 b30 .int (0 : Int32) c48 := V92.other W98 (Ne.symm ne_r0_b30)
  have V108 : own_Arr Z h97 b62 .int (2 : Int32) c81 := V82.other W98 (Ne.symm ne_r0_b62)
  show own_Go _ _ _ _ (T95.setTop (mkF m 43 #[.val (.ref r0), .val (.ref r1), .val (.ref r2), .val (.ref t11), .val (.ref b62), .unset] []))
  refine own_go (fun t_ k_ => XS.aloadN A96.here hx rfl (hb hby d4_43) rfl rfl k_) ?_
  show own_Go _ _ _ _ (T95.setTop (mkF m 44 #[.val (.ref r0), .val (.ref r1), .val (.ref r2), .val (.ref t11), .val (.ref b62), .unset] [(.ref r0)]))
  refine own_go (fun t_ k_ => XS.aload A96.here hx rfl (hb hby d4_44) rfl rfl k_) ?_
  show own_Go _ _ _ _ (T95.setTop (mkF m 46 #[.val (.ref r0), .val (.ref r1), .val (.ref r2), .val (.ref t11), .val (.ref b62), .unset] [(.ref b62), (.ref r0)]))
  refine own_len A96 hx hZ V108 rfl rfl (hb hby d4_46) ?_
  show own_Go _ _ _ _ (T95.setTop (mkF m 47 #[.val (.ref r0), .val (.ref r1), .val (.ref r2), .val (.ref t11), .val (.ref b62), .unset] [(.int (2 : Int32)), (.ref r0)]))
  refine own_go (fun t_ k_ => XS.iconst A96.here hx rfl (hb hby d4_47) k_) ?_
  show own_Go _ _ _ _ (T95.setTop (mkF m 48 #[.val (.ref r0), .val (.ref r1), .val (.ref r2), .val (.ref t11), .val (.ref b62), .unset] [(.int (2 : Int32)), (.int (2 : Int32)), (.ref r0)]))
  refine own_go (fun t_ k_ => XS.idiv A96.here hx rfl (hb hby d4_48) rfl (by decide) k_) ?_
  show own_Go _ _ _ _ (T95.setTop (mkF m 49 #[.val (.ref r0), .val (.ref r1), .val (.ref r2), .val (.ref t11), .val (.ref b62), .unset] [(.int (1 : Int32)), (.ref r0)]))
  refine own_newR A96 hx hZ hown (hw _ (List.mem_of_getElem? (i := 78) rfl)) (hw _ (List.mem_of_getElem? (i := 79) rfl)) rfl (hb hby d4_49) rfl (by decide) 1 (by decide) (by decide) (by decide) (by decide) (fun T109 h111 b112 ha_b112 A110 E113 V114 => ?_)
  have ne_r0_b112 : r0 ≠ b112 := Nat.ne_of_lt (by rw [ha_b112]; exact E101.lt)
  have ne_t11_b112 : t11 ≠ b112 := Nat.ne_of_lt (by rw [ha_b112]; exact V105.lt)
  have ne_b30_b112 : b30 ≠ b112 := Nat.ne_of_lt (by rw [ha_b112]; exact V107.lt)
  have ne_b62_b112 : b62 ≠ b112 := Nat.ne_of_lt (by rw [ha_b112]; exact V108.lt)
  have g_b112 : n0 ≤ b112 := by rw [ha_b112]; exact Z100
  have nw_b112 : h0.size ≤ b112 := by rw [ha_b112]; exact K104.1
  have O115 : Old Z n0 h111 := O99.ext E113
  have Z116 : n0 ≤ h111.size := Nat.le_trans Z100 E113.1
  have E117 : Exa Z h111 r0 "com/example/indexloom/indexloom/data/DataHeader" := E101.ext E113
  have F118 : Fld Z h111 r0 "com/example/indexloom/indexloom/data/DataHeader" "file" "Ljava/lang/String;" (.ref r1) := F102.ext E113
  have F119 : Fld Z h111 r0 "com/example/indexloom/indexloom/data/DataHeader" "names" "[Ljava/lang/String;" .null := F103.ext E113
  have K120 : Keep h0 h111 [r0] := K104.ext E113
  have V121 : own_Arr Z h111 t11 .byte (1 : Int32) (fun j => ([99] : List Int32).getD j.toNatClampNeg 0) := V105.ext E113
  have E122 : Exa Z h111 t11 "[B" := E106.ext E113
  have V123 : own_Arr Z h111 b30 .int (0 : Int32) c48 := V107.ext E113
  have V124 : own_Arr Z h111 b62 .int (2 : Int32) c81 := V108.ext E113
  show own_Go _ _ _ _ (T109.setTop (mkF m 52 #[.val (.ref r0), .val (.ref r1), .val (.ref r2), .val (.ref t11), .val (.ref b62), .unset] [(.ref b112), (.ref r0)]))
  refine own_putF A110 hx hZ hown (host := "") (Or.inl (hw _ (List.mem_of_getElem? (i := 80) rfl))) Via.refl F119 E117 (Or.inr ⟨(hw _ (List.mem_of_getElem? (i := 81) rfl)), rfl, hnm⟩) (hw _ (List.mem_of_getElem? (i := 14) rfl)) (ty := (.array (.object "java/lang/String"))) (by decide) rfl rfl g0 rfl rfl (hb hby d4_52) (fun T125 h127 A126 W128 => ?_)
  have O129 : Old Z n0 h127 := O115.wr W128 g0
  have Z130 : n0 ≤ h127.size := Nat.le_trans Z116 (Nat.le_of_eq (Wr.size W128).symm)
  have E131 : Exa Z h127 r0 "com/example/indexloom/indexloom/data/DataHeader" := E117.wr W128
  have F132 : Fld Z h127 r0 "com/example/indexloom/indexloom/data/DataHeader" "file" "Ljava/lang/String;" (.ref r1) := F118.other W128 (Or.inr (slot_ne (Or.inr (hw _ (List.mem_of_getElem? (i := 77) rfl))) (Or.inr (hw _ (List.mem_of_getElem? (i := 81) rfl))) (by decide) (t := (.object "java/lang/String")) (t' := (.array (.object "java/lang/String"))) (by decide) (by decide)))
  have F133 : Fld Z h127 r0 "com/example/indexloom/indexloom/data/DataHeader" "names" "[Ljava/lang/String;" (.ref b112) := F119.same W128
  have K134 : Keep h0 h127 [r0] := K120.wr W128 (Or.inl (List.mem_of_getElem? (i := 0) rfl))
  have V135 : own_Arr Z h127 t11 .byte (1 : Int32) (fun j => ([99] : List Int32).getD j.toNatClampNeg 0) := V121.other W128 (Ne.symm ne_r0_t11)
  have E136 : Exa Z h127 t11 "[B" := E122.wr W128
  have V137 : own_Arr Z h127 b30 .int (0 : Int32) c48 := V123.other W128 (Ne.symm ne_r0_b30)
  have V138 : own_Arr Z h127 b62 .int (2 : Int32) c81 := V124.other W128 (Ne.symm ne_r0_b62)
  have V139 : own_ArrR Z h127 b112 "java/lang/String" (1 : Int32) := V114.other W128 (Ne.symm ne_r0_b112)
  show own_Go _ _ _ _ (T125.setTop (mkF m 55 #[.val (.ref r0), .val (.ref r1), .val (.ref r2), .val (.ref t11), .val (.ref b62), .unset] []))
  refine own_go (fun t_ k_ => XS.iconst A126.here hx rfl (hb hby d4_55) k_) ?_
  show own_Go _ _ _ _ (T125.setTop (mkF m 56 #[.val (.ref r0), .val (.ref r1), .val (.ref r2), .val (.ref t11), .val (.ref b62), .unset] [(.int (0 : Int32))]))
  refine own_go (fun t_ k_ => XS.istore A126.here hx rfl (hb hby d4_56) rfl (l' := #[.val (.ref r0), .val (.ref r1), .val (.ref r2), .val (.ref t11), .val (.ref b62), .val (.int (0 : Int32))]) rfl k_) ?_
  show own_Go _ _ _ _ (T125.setTop (mkF m 58 #[.val (.ref r0), .val (.ref r1), .val (.ref r2), .val (.ref t11), .val (.ref b62), .val (.int (0 : Int32))] []))
  refine own_go (fun t_ k_ => XS.iload A126.here hx rfl (hb hby d4_58) rfl k_) ?_
  show own_Go _ _ _ _ (T125.setTop (mkF m 60 #[.val (.ref r0), .val (.ref r1), .val (.ref r2), .val (.ref t11), .val (.ref b62), .val (.int (0 : Int32))] [(.int (0 : Int32))]))
  refine own_go (fun t_ k_ => XS.aloadN A126.here hx rfl (hb hby d4_60) rfl rfl k_) ?_
  show own_Go _ _ _ _ (T125.setTop (mkF m 61 #[.val (.ref r0), .val (.ref r1), .val (.ref r2), .val (.ref t11), .val (.ref b62), .val (.int (0 : Int32))] [(.ref r0), (.int (0 : Int32))]))
  refine own_getF A126 hx hZ hown (host := "") (Or.inl (hw _ (List.mem_of_getElem? (i := 80) rfl))) Via.refl F133 rfl rfl (hb hby d4_61) (fun T140 A141 => ?_)
  show own_Go _ _ _ _ (T140.setTop (mkF m 64 #[.val (.ref r0), .val (.ref r1), .val (.ref r2), .val (.ref t11), .val (.ref b62), .val (.int (0 : Int32))] [(.ref b112), (.int (0 : Int32))]))
  refine own_lenR A141 hx hZ V139 rfl rfl (hb hby d4_64) ?_
  show own_Go _ _ _ _ (T140.setTop (mkF m 65 #[.val (.ref r0), .val (.ref r1), .val (.ref r2), .val (.ref t11), .val (.ref b62), .val (.int (0 : Int32))] [(.int (1 : Int32)), (.int (0 : Int32))]))
  have hc142 : (0 : Int32) < (1 : Int32) := (by decide)
  refine own_go (fun t_ k_ => XS.icmpNo A141.here hx rfl (hb hby d4_65) rfl (tlt hc142).2.1 k_) ?_
  show own_Go _ _ _ _ (T140.setTop (mkF m 68 #[.val (.ref r0), .val (.ref r1), .val (.ref r2), .val (.ref t11), .val (.ref b62), .val (.int (0 : Int32))] []))
  refine own_go (fun t_ k_ => XS.aloadN A141.here hx rfl (hb hby d4_68) rfl rfl k_) ?_
  show own_Go _ _ _ _ (T140.setTop (mkF m 69 #[.val (.ref r0), .val (.ref r1), .val (.ref r2), .val (.ref t11), .val (.ref b62), .val (.int (0 : Int32))] [(.ref r0)]))
  refine own_getF A141 hx hZ hown (host := "") (Or.inl (hw _ (List.mem_of_getElem? (i := 80) rfl))) Via.refl F133 rfl rfl (hb hby d4_69) (fun T143 A144 => ?_)
  show own_Go _ _ _ _ (T143.setTop (mkF m 72 #[.val (.ref r0), .val (.ref r1), .val (.ref r2), .val (.ref t11), .val (.ref b62), .val (.int (0 : Int32))] [(.ref b112)]))
  refine own_go (fun t_ k_ => XS.iload A144.here hx rfl (hb hby d4_72) rfl k_) ?_
  show own_Go _ _ _ _ (T143.setTop (mkF m 74 #[.val (.ref r0), .val (.ref r1), .val (.ref r2), .val (.ref t11), .val (.ref b62), .val (.int (0 : Int32))] [(.int (0 : Int32)), (.ref b112)]))
  refine own_newO A144 hx hZ hown (hw _ (List.mem_of_getElem? (i := 78) rfl)) (hw _ (List.mem_of_getElem? (i := 18) rfl)) (hw _ (List.mem_of_getElem? (i := 17) rfl)) rfl (hb hby d4_74) (by decide) (by decide) (fun T145 h147 b148 ha_b148 A146 E149 X150 D151 => ?_)
  have ne_r0_b148 : r0 ≠ b148 := Nat.ne_of_lt (by rw [ha_b148]; exact E131.lt)
  have ne_t11_b148 : t11 ≠ b148 := Nat.ne_of_lt (by rw [ha_b148]; exact V135.lt)
  have ne_b30_b148 : b30 ≠ b148 := Nat.ne_of_lt (by rw [ha_b148]; exact V137.lt)
  have ne_b62_b148 : b62 ≠ b148 := Nat.ne_of_lt (by rw [ha_b148]; exact V138.lt)
  have ne_b112_b148 : b112 ≠ b148 := Nat.ne_of_lt (by rw [ha_b148]; exact V139.lt)
  have g_b148 : n0 ≤ b148 := by rw [ha_b148]; exact Z130
  have nw_b148 : h0.size ≤ b148 := by rw [ha_b148]; exact K134.1
  have O152 : Old Z n0 h147 := O129.ext E149
  have Z153 : n0 ≤ h147.size := Nat.le_trans Z130 E149.1
  have E154 : Exa Z h147 r0 "com/example/indexloom/indexloom/data/DataHeader" := E131.ext E149
  have F155 : Fld Z h147 r0 "com/example/indexloom/indexloom/data/DataHeader" "file" "Ljava/lang/String;" (.ref r1) := F132.ext E149
  have F156 : Fld Z h147 r0 "com/example/indexloom/indexloom/data/DataHeader" "names" "[Ljava/lang/String;" (.ref b112) := F133.ext E149
  have K157 : Keep h0 h147 [r0] := K134.ext E149
  have V158 : own_Arr Z h147 t11 .byte (1 : Int32) (fun j => ([99] : List Int32).getD j.toNatClampNeg 0) := V135.ext E149
  have E159 : Exa Z h147 t11 "[B" := E136.ext E149
  have V160 : own_Arr Z h147 b30 .int (0 : Int32) c48 := V137.ext E149
  have V161 : own_Arr Z h147 b62 .int (2 : Int32) c81 := V138.ext E149
  have V162 : own_ArrR Z h147 b112 "java/lang/String" (1 : Int32) := V139.ext E149
  have F163 : Fld Z h147 b148 "java/lang/String" "value" "[B" .null := D151 (Or.inr (hw _ (List.mem_of_getElem? (i := 19) rfl))) (ty := (.array .byte)) (by decide)
  have F164 : Fld Z h147 b148 "java/lang/String" "coder" "B" (.int (0 : Int32)) := D151 (Or.inr (hw _ (List.mem_of_getElem? (i := 20) rfl))) (ty := .byte) (by decide)
  show own_Go _ _ _ _ (T145.setTop (mkF m 77 #[.val (.ref r0), .val (.ref r1), .val (.ref r2), .val (.ref t11), .val (.ref b62), .val (.int (0 : Int32))] [(.ref b148), (.int (0 : Int32)), (.ref b112)]))
  refine own_go (fun t_ k_ => XS.dup A146.here hx rfl (hb hby d4_77) rfl rfl k_) ?_
  show own_Go _ _ _ _ (T145.setTop (mkF m 78 #[.val (.ref r0), .val (.ref r1), .val (.ref r2), .val (.ref t11), .val (.ref b62), .val (.int (0 : Int32))] [(.ref b148), (.ref b148), (.int (0 : Int32)), (.ref b112)]))
  refine own_go (fun t_ k_ => XS.aloadN A146.here hx rfl (hb hby d4_78) rfl rfl k_) ?_
  show own_Go _ _ _ _ (T145.setTop (mkF m 79 #[.val (.ref r0), .val (.ref r1), .val (.ref r2), .val (.ref t11), .val (.ref b62), .val (.int (0 : Int32))] [(.ref t11), (.ref b148), (.ref b148), (.int (0 : Int32)), (.ref b112)]))
  refine own_go (fun t_ k_ => XS.aload A146.here hx rfl (hb hby d4_79) rfl rfl k_) ?_
  show own_Go _ _ _ _ (T145.setTop (mkF m 81 #[.val (.ref r0), .val (.ref r1), .val (.ref r2), .val (.ref t11), .val (.ref b62), .val (.int (0 : Int32))] [(.ref b62), (.ref t11), (.ref b148), (.ref b148), (.int (0 : Int32)), (.ref b112)]))
  refine own_go (fun t_ k_ => XS.iconst A146.here hx rfl (hb hby d4_81) k_) ?_
  show own_Go _ _ _ _ (T145.setTop (mkF m 82 #[.val (.ref r0), .val (.ref r1), .val (.ref r2), .val (.ref t11), .val (.ref b62), .val (.int (0 : Int32))] [(.int (2 : Int32)), (.ref b62), (.ref t11), (.ref b148), (.ref b148), (.int (0 : Int32)), (.ref b112)]))
  refine own_go (fun t_ k_ => XS.iload A146.here hx rfl (hb hby d4_82) rfl k_) ?_
  show own_Go _ _ _ _ (T145.setTop (mkF m 84 #[.val (.ref r0), .val (.ref r1), .val (.ref r2), .val (.ref t11), .val (.ref b62), .val (.int (0 : Int32))] [(.int (0 : Int32)), (.int (2 : Int32)), (.ref b62), (.ref t11), (.ref b148), (.ref b148), (.int (0 : Int32)), (.ref b112)]))
  refine own_go (fun t_ k_ => XS.imul A146.here hx rfl (hb hby d4_84) rfl k_) ?_
  show own_Go _ _ _ _ (T145.setTop (mkF m 85 #[.val (.ref r0), .val (.ref r1), .val (.ref r2), .val (.ref t11), .val (.ref b62), .val (.int (0 : Int32))] [(.int (0 : Int32)), (.ref b62), (.ref t11), (.ref b148), (.ref b148), (.int (0 : Int32)), (.ref b112)]))
  refine own_ldI A146 hx hZ V161 ⟨by decide, by decide⟩ rfl rfl (hb hby d4_85) ?_
  show own_Go _ _ _ _ (T145.setTop (mkF m 86 #[.val (.ref r0), .val (.ref r1), .val (.ref r2), .val (.ref t11), .val (.ref b62), .val (.int (0 : Int32))] [(.int (c81 (0 : Int32))), (.ref t11), (.ref b148), (.ref b148), (.int (0 : Int32)), (.ref b112)]))
  rw [hv93]
  show own_Go _ _ _ _ (T145.setTop (mkF m 86 #[.val (.ref r0), .val (.ref r1), .val (.ref r2), .val (.ref t11), .val (.ref b62), .val (.int (0 : Int32))] [(.int (0 : Int32)), (.ref t11), (.ref b148), (.ref b148), (.int (0 : Int32)), (.ref b112)]))
  refine own_go (fun t_ k_ => XS.aload A146.here hx rfl (hb hby d4_86) rfl rfl k_) ?_
  show own_Go _ _ _ _ (T145.setTop (mkF m 88 #[.val (.ref r0), .val (.ref r1), .val (.ref r2), .val (.ref t11), .val (.ref b62), .val (.int (0 : Int32))] [(.ref b62), (.int (0 : Int32)), (.ref t11), (.ref b148), (.ref b148), (.int (0 : Int32)), (.ref b112)]))
  refine own_go (fun t_ k_ => XS.iconst A146.here hx rfl (hb hby d4_88) k_) ?_
  show own_Go _ _ _ _ (T145.setTop (mkF m 89 #[.val (.ref r0), .val (.ref r1), .val (.ref r2), .val (.ref t11), .val (.ref b62), .val (.int (0 : Int32))] [(.int (2 : Int32)), (.ref b62), (.int (0 : Int32)), (.ref t11), (.ref b148), (.ref b148), (.int (0 : Int32)), (.ref b112)]))
  refine own_go (fun t_ k_ => XS.iload A146.here hx rfl (hb hby d4_89) rfl k_) ?_
  show own_Go _ _ _ _ (T145.setTop (mkF m 91 #[.val (.ref r0), .val (.ref r1), .val (.ref r2), .val (.ref t11), .val (.ref b62), .val (.int (0 : Int32))] [(.int (0 : Int32)), (.int (2 : Int32)), (.ref b62), (.int (0 : Int32)), (.ref t11), (.ref b148), (.ref b148), (.int (0 : Int32)), (.ref b112)]))
  refine own_go (fun t_ k_ => XS.imul A146.here hx rfl (hb hby d4_91) rfl k_) ?_
  show own_Go _ _ _ _ (T145.setTop (mkF m 92 #[.val (.ref r0), .val (.ref r1), .val (.ref r2), .val (.ref t11), .val (.ref b62), .val (.int (0 : Int32))] [(.int (0 : Int32)), (.ref b62), (.int (0 : Int32)), (.ref t11), (.ref b148), (.ref b148), (.int (0 : Int32)), (.ref b112)]))
  refine own_go (fun t_ k_ => XS.iconst A146.here hx rfl (hb hby d4_92) k_) ?_
  show own_Go _ _ _ _ (T145.setTop (mkF m 93 #[.val (.ref r0), .val (.ref r1), .val (.ref r2), .val (.ref t11), .val (.ref b62), .val (.int (0 : Int32))] [(.int (1 : Int32)), (.int (0 : Int32)), (.ref b62), (.int (0 : Int32)), (.ref t11), (.ref b148), (.ref b148), (.int (0 : Int32)), (.ref b112)]))
  refine own_go (fun t_ k_ => XS.iadd A146.here hx rfl (hb hby d4_93) rfl k_) ?_
  show own_Go _ _ _ _ (T145.setTop (mkF m 94 #[.val (.ref r0), .val (.ref r1), .val (.ref r2), .val (.ref t11), .val (.ref b62), .val (.int (0 : Int32))] [(.int (1 : Int32)), (.ref b62), (.int (0 : Int32)), (.ref t11), (.ref b148), (.ref b148), (.int (0 : Int32)), (.ref b112)]))
  refine own_ldI A146 hx hZ V161 ⟨by decide, by decide⟩ rfl rfl (hb hby d4_94) ?_
  show own_Go _ _ _ _ (T145.setTop (mkF m 95 #[.val (.ref r0), .val (.ref r1), .val (.ref r2), .val (.ref t11), .val (.ref b62), .val (.int (0 : Int32))] [(.int (c81 (1 : Int32))), (.int (0 : Int32)), (.ref t11), (.ref b148), (.ref b148), (.int (0 : Int32)), (.ref b112)]))
  rw [hv94]
  show own_Go _ _ _ _ (T145.setTop (mkF m 95 #[.val (.ref r0), .val (.ref r1), .val (.ref r2), .val (.ref t11), .val (.ref b62), .val (.int (0 : Int32))] [(.int (1 : Int32)), (.int (0 : Int32)), (.ref t11), (.ref b148), (.ref b148), (.int (0 : Int32)), (.ref b112)]))
  refine own_go (fun t_ k_ => XS.aload A146.here hx rfl (hb hby d4_95) rfl rfl k_) ?_
  show own_Go _ _ _ _ (T145.setTop (mkF m 97 #[.val (.ref r0), .val (.ref r1), .val (.ref r2), .val (.ref t11), .val (.ref b62), .val (.int (0 : Int32))] [(.ref b62), (.int (1 : Int32)), (.int (0 : Int32)), (.ref t11), (.ref b148), (.ref b148), (.int (0 : Int32)), (.ref b112)]))
  refine own_go (fun t_ k_ => XS.iconst A146.here hx rfl (hb hby d4_97) k_) ?_
  show own_Go _ _ _ _ (T145.setTop (mkF m 98 #[.val (.ref r0), .val (.ref r1), .val (.ref r2), .val (.ref t11), .val (.ref b62), .val (.int (0 : Int32))] [(.int (2 : Int32)), (.ref b62), (.int (1 : Int32)), (.int (0 : Int32)), (.ref t11), (.ref b148), (.ref b148), (.int (0 : Int32)), (.ref b112)]))
  refine own_go (fun t_ k_ => XS.iload A146.here hx rfl (hb hby d4_98) rfl k_) ?_
  show own_Go _ _ _ _ (T145.setTop (mkF m 100 #[.val (.ref r0), .val (.ref r1), .val (.ref r2), .val (.ref t11), .val (.ref b62), .val (.int (0 : Int32))] [(.int (0 : Int32)), (.int (2 : Int32)), (.ref b62), (.int (1 : Int32)), (.int (0 : Int32)), (.ref t11), (.ref b148), (.ref b148), (.int (0 : Int32)), (.ref b112)]))
  refine own_go (fun t_ k_ => XS.imul A146.here hx rfl (hb hby d4_100) rfl k_) ?_
  show own_Go _ _ _ _ (T145.setTop (mkF m 101 #[.val (.ref r0), .val (.ref r1), .val (.ref r2), .val (.ref t11), .val (.ref b62), .val (.int (0 : Int32))] [(.int (0 : Int32)), (.ref b62), (.int (1 : Int32)), (.int (0 : Int32)), (.ref t11), (.ref b148), (.ref b148), (.int (0 : Int32)), (.ref b112)]))
  refine own_ldI A146 hx hZ V161 ⟨by decide, by decide⟩ rfl rfl (hb hby d4_101) ?_
  show own_Go _ _ _ _ (T145.setTop (mkF m 102 #[.val (.ref r0), .val (.ref r1), .val (.ref r2), .val (.ref t11), .val (.ref b62), .val (.int (0 : Int32))] [(.int (c81 (0 : Int32))), (.int (1 : Int32)), (.int (0 : Int32)), (.ref t11), (.ref b148), (.ref b148), (.int (0 : Int32)), (.ref b112)]))
  rw [hv93]
  show own_Go _ _ _ _ (T145.setTop (mkF m 102 #[.val (.ref r0), .val (.ref r1), .val (.ref r2), .val (.ref t11), .val (.ref b62), .val (.int (0 : Int32))] [(.int (0 : Int32)), (.int (1 : Int32)), (.int (0 : Int32)), (.ref t11), (.ref b148), (.ref b148), (.int (0 : Int32)), (.ref b112)]))
  refine own_go (fun t_ k_ => XS.isub A146.here hx rfl (hb hby d4_102) rfl k_) ?_
  show own_Go _ _ _ _ (T145.setTop (mkF m 103 #[.val (.ref r0), .val (.ref r1), .val (.ref r2), .val (.ref t11), .val (.ref b62), .val (.int (0 : Int32))] [(.int (1 : Int32)), (.int (0 : Int32)), (.ref t11), (.ref b148), (.ref b148), (.int (0 : Int32)), (.ref b112)]))
  refine own_getS A146 hx hZ hown (host := "") (Or.inl (hw _ (List.mem_of_getElem? (i := 30) rfl))) Via.refl (S_UTF_8.ext O152.2) rfl (hb hby d4_103) (fun T165 A166 => ?_)
  show own_Go _ _ _ _ (T165.setTop (mkF m 106 #[.val (.ref r0), .val (.ref r1), .val (.ref r2), .val (.ref t11), .val (.ref b62), .val (.int (0 : Int32))] [(.ref u8), (.int (1 : Int32)), (.int (0 : Int32)), (.ref t11), (.ref b148), (.ref b148), (.int (0 : Int32)), (.ref b112)]))
  refine own_callI A166 hx hZ (y := (⟨"java/lang/String", "<init>", "([BIILjava/nio/charset/Charset;)V"⟩ : MethodName)) rfl hown (hw _ (List.mem_of_getElem? (i := 82) rfl)) (hw _ (List.mem_of_getElem? (i := 83) rfl)) (hw _ (List.mem_of_getElem? (i := 17) rfl)) (hw _ (List.mem_of_getElem? (i := 84) rfl)) (by decide) (b := b148) (argsL := [(.ref t11), (.int (0 : Int32)), (.int (1 : Int32)), (.ref u8)]) (rest := [(.ref b148), (.int (0 : Int32)), (.ref b112)]) (rm14_0_1 l Z a0 hw b148 t11 u8 z_C s_F h147 n0 O152 Z153 X150 F163 F164 g_b148 V158 E159 (Ne.symm ne_t11_b148) hz hr_F EU8 S_COMPACT_STRINGS S_INSTANCE S_SIOOBE_FORMATTER) 3 (by decide) (by decide) rfl (by rw [hml]; rfl) (lenOf pd___BIILjava_nio_charset_Charset__V rfl) rfl (by show 2 * 0 + _ ≤ _; exact Nat.le_of_eq rfl) (hb hby d4_106) (by decide) (by decide) (fun v170 T167 h169 A168 hQ171 => ?_)
  obtain ⟨rfl, K172⟩ := hQ171
  have O173 : Old Z n0 h169 := O152.keep K172 (allS g_b148 all0)
  have Z174 : n0 ≤ h169.size := Nat.le_trans Z153 K172.1
  have E175 : Exa Z h169 r0 "com/example/indexloom/indexloom/data/DataHeader" := E154.keep K172
  have F176 : Fld Z h169 r0 "com/example/indexloom/indexloom/data/DataHeader" "file" "Ljava/lang/String;" (.ref r1) := F155.keep K172 (ninS ne_r0_b148 nin0)
  have F177 : Fld Z h169 r0 "com/example/indexloom/indexloom/data/DataHeader" "names" "[Ljava/lang/String;" (.ref b112) := F156.keep K172 (ninS ne_r0_b148 nin0)
  have K178 : Keep h0 h169 [r0] := K157.trans K172 (allS (Or.inr nw_b148) all0)
  have V179 : own_Arr Z h169 t11 .byte (1 : Int32) (fun j => ([99] : List Int32).getD j.toNatClampNeg 0) := V158.keep K172 (ninS ne_t11_b148 nin0)
  have E180 : Exa Z h169 t11 "[B" := E159.keep K172
  have V181 : own_Arr Z h169 b30 .int (0 : Int32) c48 := V160.keep K172 (ninS ne_b30_b148 nin0)
  have V182 : own_Arr Z h169 b62 .int (2 : Int32) c81 := V161.keep K172 (ninS ne_b62_b148 nin0)
  have V183 : own_ArrR Z h169 b112 "java/lang/String" (1 : Int32) := V162.keep K172 (ninS ne_b112_b148 nin0)
  have E184 : Exa Z h169 b148 "java/lang/String" := X150.keep K172
  show own_Go _ _ _ _ (T167.setTop (mkF m 109 #[.val (.ref r0), .val (.ref r1), .val (.ref r2), .val (.ref t11), .val (.ref b62), .val (.int (0 : Int32))] [(.ref b148), (.int (0 : Int32)), (.ref b112)]))
  refine own_stR A168 hx hZ V183 ⟨by decide, by decide⟩ (Ins.of_exa E184 (hw _ (List.mem_of_getElem? (i := 101) rfl))) g_b112 rfl rfl (hb hby d4_109) (fun T185 h187 A186 W188 V189 => ?_)
  have O190 : Old Z n0 h187 := O173.wr W188 g_b112
  have Z191 : n0 ≤ h187.size := Nat.le_trans Z174 (Nat.le_of_eq (Wr.size W188).symm)
  have E192 : Exa Z h187 r0 "com/example/indexloom/indexloom/data/DataHeader" := E175.wr W188
  have F193 : Fld Z h187 r0 "com/example/indexloom/indexloom/data/DataHeader" "file" "Ljava/lang/String;" (.ref r1) := F176.other W188 (Or.inl ne_r0_b112)
  have F194 : Fld Z h187 r0 "com/example/indexloom/indexloom/data/DataHeader" "names" "[Ljava/lang/String;" (.ref b112) := F177.other W188 (Or.inl ne_r0_b112)
  have K195 : Keep h0 h187 [r0] := K178.wr W188 (Or.inr nw_b112)
  have V196 : own_Arr Z h187 t11 .byte (1 : Int32) (fun j => ([99] : List Int32).getD j.toNatClampNeg 0) := V179.other W188 ne_t11_b112
  have E197 : Exa Z h187 t11 "[B" := E180.wr W188
  have V198 : own_Arr Z h187 b30 .int (0 : Int32) c48 := V181.other W188 ne_b30_b112
  have V199 : own_Arr Z h187 b62 .int (2 : Int32) c81 := V182.other W188 ne_b62_b112
  have V200 : own_ArrR Z h187 b112 "java/lang/String" (1 : Int32) := V189
  have E201 : Exa Z h187 b148 "java/lang/String" := E184.wr W188
  show own_Go _ _ _ _ (T185.setTop (mkF m 110 #[.val (.ref r0), .val (.ref r1), .val (.ref r2), .val (.ref t11), .val (.ref b62), .val (.int (0 : Int32))] []))
  refine own_go (fun t_ k_ => XS.iinc A186.here hx rfl (hb hby d4_110) rfl (l' := #[.val (.ref r0), .val (.ref r1), .val (.ref r2), .val (.ref t11), .val (.ref b62), .val (.int (1 : Int32))]) rfl k_) ?_
  show own_Go _ _ _ _ (T185.setTop (mkF m 113 #[.val (.ref r0), .val (.ref r1), .val (.ref r2), .val (.ref t11), .val (.ref b62), .val (.int (1 : Int32))] []))
  refine own_go (fun t_ k_ => XS.goto A186.here hx rfl (pc0 := 113) (pc' := 58) rfl (hb hby d4_113) (by decide) (by decide) k_) ?_
  show own_Go _ _ _ _ (T185.setTop (mkF m 58 #[.val (.ref r0), .val (.ref r1), .val (.ref r2), .val (.ref t11), .val (.ref b62), .val (.int (1 : Int32))] []))
  refine own_go (fun t_ k_ => XS.iload A186.here hx rfl (hb hby d4_58) rfl k_) ?_
  show own_Go _ _ _ _ (T185.setTop (mkF m 60 #[.val (.ref r0), .val (.ref r1), .val (.ref r2), .val (.ref t11), .val (.ref b62), .val (.int (1 : Int32))] [(.int (1 : Int32))]))
  refine own_go (fun t_ k_ => XS.aloadN A186.here hx rfl (hb hby d4_60) rfl rfl k_) ?_
  show own_Go _ _ _ _ (T185.setTop (mkF m 61 #[.val (.ref r0), .val (.ref r1), .val (.ref r2), .val (.ref t11), .val (.ref b62), .val (.int (1 : Int32))] [(.ref r0), (.int (1 : Int32))]))
  refine own_getF A186 hx hZ hown (host := "") (Or.inl (hw _ (List.mem_of_getElem? (i := 80) rfl))) Via.refl F194 rfl rfl (hb hby d4_61) (fun T202 A203 => ?_)
  show own_Go _ _ _ _ (T202.setTop (mkF m 64 #[.val (.ref r0), .val (.ref r1), .val (.ref r2), .val (.ref t11), .val (.ref b62), .val (.int (1 : Int32))] [(.ref b112), (.int (1 : Int32))]))
  refine own_lenR A203 hx hZ V200 rfl rfl (hb hby d4_64) ?_
  show own_Go _ _ _ _ (T202.setTop (mkF m 65 #[.val (.ref r0), .val (.ref r1), .val (.ref r2), .val (.ref t11), .val (.ref b62), .val (.int (1 : Int32))] [(.int (1 : Int32)), (.int (1 : Int32))]))
  have hc204 : ¬ ((1 : Int32) < (1 : Int32)) := (by decide)
  refine own_go (fun t_ k_ => XS.icmpYes A203.here hx rfl (pc0 := 65) (pc' := 116) rfl (hb hby d4_65) rfl (flt hc204).2.1 (by decide) (by decide) k_) ?_
  show own_Go _ _ _ _ (T202.setTop (mkF m 116 #[.val (.ref r0), .val (.ref r1), .val (.ref r2), .val (.ref t11), .val (.ref b62), .val (.int (1 : Int32))] []))
  refine own_retV A203 hx hret hlk (by decide) (by decide) (hb hby d4_116) ?_
  exact ⟨rfl, K195, b112, g_b112, nw_b112, F194, V200⟩
theorem ef_21 (m : MethodId) (r0 : Addr) : entryFrame m #[(.ref r0)] 1 = mkF m 0 #[.val (.ref r0)] [] := by first | (simp [entryFrame, mkF, argsToLocals, Value.category]; done) | rfl
theorem d21_0 : decode prog_13_method_3_code 0 = .ok (.aload_n 0, 1) := by decide +kernel
theorem d21_1 : decode prog_13_method_3_code 1 = .ok (.getfield 29, 3) := by decide +kernel
theorem d21_4 : decode prog_13_method_3_code 4 = .ok (.arraylength, 1) := by decide +kernel
theorem d21_5 : decode prog_13_method_3_code 5 = .ok (.ireturn, 1) := by decide +kernel
set_option maxRecDepth 65536 in
set_option maxHeartbeats 40000000 in
theorem rm21 (l : Launch) (Z : State) (a0 : Array Value) (hw : ∀ d ∈ tables_1, d.before a0 Z = true) (r0 : Addr) (t0 : Addr) (h0 : Heap) (n0 : Nat) (Fn : Fld Z h0 r0 "com/example/indexloom/indexloom/data/DataHeader" "names" "[Ljava/lang/String;" (.ref t0)) (Vn : own_ArrR Z h0 t0 "java/lang/String" (1 : Int32)) :
    own_Met l Z n0 (⟨"com/example/indexloom/indexloom/data/DataHeader", "size", "()I"⟩ : MethodName) prog_13_method_3_code 1 (some .int) ({ frames := 0, cells := 0, slots := 0, locals := 0 } : Room) #[(.ref r0)] h0 (fun v h => v = some (.int 1) ∧ h0 = h) := by
  refine own_met (plainFor_of_name pn_13) ?_
  intro p e s m below meth c T0 hx hby hml hown hnm hret hlk hZ A0
  rw [ef_21]
  show own_Go _ _ _ _ (T0.setTop (mkF m 0 #[.val (.ref r0)] []))
  refine own_go (fun t_ k_ => XS.aloadN A0.here hx rfl (hb hby d21_0) rfl rfl k_) ?_
  show own_Go _ _ _ _ (T0.setTop (mkF m 1 #[.val (.ref r0)] [(.ref r0)]))
  refine own_getF A0 hx hZ hown (host := "") (Or.inl (hw _ (List.mem_of_getElem? (i := 80) rfl))) Via.refl Fn rfl rfl (hb hby d21_1) (fun T1 A2 => ?_)
  show own_Go _ _ _ _ (T1.setTop (mkF m 4 #[.val (.ref r0)] [(.ref t0)]))
  refine own_lenR A2 hx hZ Vn rfl rfl (hb hby d21_4) ?_
  show own_Go _ _ _ _ (T1.setTop (mkF m 5 #[.val (.ref r0)] [(.int (1 : Int32))]))
  refine own_retI A2 hx hret hlk (by decide) (by decide) (hb hby d21_5) ?_
  exact ⟨rfl, rfl⟩
theorem ef_20 (m : MethodId) (r0 : Addr) (r1 : Addr) : entryFrame m #[(.ref r0), (.ref r1)] 2 = mkF m 0 #[.val (.ref r0), .val (.ref r1)] [] := by first | (simp [entryFrame, mkF, argsToLocals, Value.category]; done) | rfl
theorem pn_20 : plainName "com/example/indexloom/indexloom/data/DataLine" = true := by first | (simp [plainName, overriddenIn]; done) | decide +kernel
theorem d20_0 : decode prog_14_method_1_code 0 = .ok (.aload_n 0, 1) := by decide +kernel
theorem d20_1 : decode prog_14_method_1_code 1 = .ok (.invokespecial 3, 3) := by decide +kernel
theorem d20_4 : decode prog_14_method_1_code 4 = .ok (.aload_n 0, 1) := by decide +kernel
theorem d20_5 : decode prog_14_method_1_code 5 = .ok (.aload_n 1, 1) := by decide +kernel
theorem d20_6 : decode prog_14_method_1_code 6 = .ok (.putfield 9, 3) := by decide +kernel
theorem d20_9 : decode prog_14_method_1_code 9 = .ok (.aload_n 0, 1) := by decide +kernel
theorem d20_10 : decode prog_14_method_1_code 10 = .ok (.iconst 2, 1) := by decide +kernel
theorem d20_11 : decode prog_14_method_1_code 11 = .ok (.aload_n 1, 1) := by decide +kernel
theorem d20_12 : decode prog_14_method_1_code 12 = .ok (.invokevirtual 15, 3) := by decide +kernel
theorem pd___I : parseMethodDescriptor "()I" = some ⟨[], some .int⟩ := by decide +kernel
theorem d20_15 : decode prog_14_method_1_code 15 = .ok (.imul, 1) := by decide +kernel
theorem d20_16 : decode prog_14_method_1_code 16 = .ok (.newarray .int, 2) := by decide +kernel
theorem d20_18 : decode prog_14_method_1_code 18 = .ok (.putfield 21, 3) := by decide +kernel
theorem d20_21 : decode prog_14_method_1_code 21 = .ok (.return_, 1) := by decide +kernel
set_option maxRecDepth 65536 in
set_option maxHeartbeats 40000000 in
theorem rm20 (l : Launch) (Z : State) (a0 : Array Value) (hw : ∀ d ∈ tables_1, d.before a0 Z = true) (r0 : Addr) (r1 : Addr) (t1 : Addr) (h0 : Heap) (n0 : Nat) (Z0 : n0 ≤ h0.size) (E0 : Exa Z h0 r0 "com/example/indexloom/indexloom/data/DataLine") (F0_header : Fld Z h0 r0 "com/example/indexloom/indexloom/data/DataLine" "header" "Lcom/example/indexloom/indexloom/data/DataHeader;" .null) (F0_bounds : Fld Z h0 r0 "com/example/indexloom/indexloom/data/DataLine" "bounds" "[I" .null) (F0_number : Fld Z h0 r0 "com/example/indexloom/indexloom/data/DataLine" "number" "I" (.int (0 : Int32))) (F0_bytes : Fld Z h0 r0 "com/example/indexloom/indexloom/data/DataLine" "bytes" "[B" .null) (g0 : n0 ≤ r0) (Eh : Exa Z h0 r1 "com/example/indexloom/indexloom/data/DataHeader") (Fn : Fld Z h0 r1 "com/example/indexloom/indexloom/data/DataHeader" "names" "[Ljava/lang/String;" (.ref t1)) (Vn : own_ArrR Z h0 t1 "java/lang/String" (1 : Int32)) (ne_r0_r1 : r0 ≠ r1) (ne_r0_t1 : r0 ≠ t1) :
    own_Met l Z n0 (⟨"com/example/indexloom/indexloom/data/DataLine", "<init>", "(Lcom/example/indexloom/indexloom/data/DataHeader;)V"⟩ : MethodName) prog_14_method_1_code 2 none ({ frames := 1, cells := 1, slots := 2, locals := 14 } : Room) #[(.ref r0), (.ref r1)] h0 (fun v h => v = none ∧ Keep h0 h [r0] ∧ Fld Z h r0 "com/example/indexloom/indexloom/data/DataLine" "header" "Lcom/example/indexloom/indexloom/data/DataHeader;" (.ref r1) ∧ Fld Z h r0 "com/example/indexloom/indexloom/data/DataLine" "number" "I" (.int (0 : Int32)) ∧ Fld Z h r0 "com/example/indexloom/indexloom/data/DataLine" "bytes" "[B" .null ∧ ∃ bo, n0 ≤ bo ∧ h0.size ≤ bo ∧ Fld Z h r0 "com/example/indexloom/indexloom/data/DataLine" "bounds" "[I" (.ref bo) ∧ own_Arr Z h bo .int (2 : Int32) (fun _ => 0)) := by
  refine own_met (plainFor_of_name pn_20) ?_
  intro p e s m below meth c T0 hx hby hml hown hnm hret hlk hZ A0
  rw [ef_20]
  show own_Go _ _ _ _ (T0.setTop (mkF m 0 #[.val (.ref r0), .val (.ref r1)] []))
  refine own_go (fun t_ k_ => XS.aloadN A0.here hx rfl (hb hby d20_0) rfl rfl k_) ?_
  show own_Go _ _ _ _ (T0.setTop (mkF m 1 #[.val (.ref r0), .val (.ref r1)] [(.ref r0)]))
  refine own_initO A0 hx hZ hown (hw _ (List.mem_of_getElem? (i := 117) rfl)) (hw _ (List.mem_of_getElem? (i := 28) rfl)) (hw _ (List.mem_of_getElem? (i := 29) rfl)) rfl (by rw [hml]; rfl) rfl (hb hby d20_1) (by decide) 0 (by show 2 * 0 + _ ≤ _; exact Nat.le_of_eq rfl) (by decide) (fun T1 A2 => ?_)
  show own_Go _ _ _ _ (T1.setTop (mkF m 4 #[.val (.ref r0), .val (.ref r1)] []))
  refine own_go (fun t_ k_ => XS.aloadN A2.here hx rfl (hb hby d20_4) rfl rfl k_) ?_
  show own_Go _ _ _ _ (T1.setTop (mkF m 5 #[.val (.ref r0), .val (.ref r1)] [(.ref r0)]))
  refine own_go (fun t_ k_ => XS.aloadN A2.here hx rfl (hb hby d20_5) rfl rfl k_) ?_
  show own_Go _ _ _ _ (T1.setTop (mkF m 6 #[.val (.ref r0), .val (.ref r1)] [(.ref r1), (.ref r0)]))
  refine own_putF A2 hx hZ hown (host := "") (Or.inl (hw _ (List.mem_of_getElem? (i := 118) rfl))) Via.refl F0_header E0 (Or.inr ⟨(hw _ (List.mem_of_getElem? (i := 119) rfl)), rfl, hnm⟩) (hw _ (List.mem_of_getElem? (i := 112) rfl)) (ty := (.object "com/example/indexloom/indexloom/data/DataHeader")) (by decide) rfl rfl g0 rfl rfl (hb hby d20_6) (fun T3 h5 A4 W6 => ?_)
  have Z7 : n0 ≤ h5.size := Nat.le_trans Z0 (Nat.le_of_eq (Wr.size W6).symm)
  have E8 : Exa Z h5 r0 "com/example/indexloom/indexloom/data/DataLine" := E0.wr W6
  have F9 : Fld Z h5 r0 "com/example/indexloom/indexloom/data/DataLine" "header" "Lcom/example/indexloom/indexloom/data/DataHeader;" (.ref r1) := F0_header.same W6
  have F10 : Fld Z h5 r0 "com/example/indexloom/indexloom/data/DataLine" "bounds" "[I" .null := F0_bounds.other W6 (Or.inr (slot_ne (Or.inr (hw _ (List.mem_of_getElem? (i := 126) rfl))) (Or.inr (hw _ (List.mem_of_getElem? (i := 119) rfl))) (by decide) (t := (.array .int)) (t' := (.object "com/example/indexloom/indexloom/data/DataHeader")) (by decide) (by decide)))
  have F11 : Fld Z h5 r0 "com/example/indexloom/indexloom/data/DataLine" "number" "I" (.int (0 : Int32)) := F0_number.other W6 (Or.inr (slot_ne (Or.inl (hw _ (List.mem_of_getElem? (i := 134) rfl))) (Or.inr (hw _ (List.mem_of_getElem? (i := 119) rfl))) (by decide) (t := .int) (t' := (.object "com/example/indexloom/indexloom/data/DataHeader")) (by decide) (by decide)))
  have F12 : Fld Z h5 r0 "com/example/indexloom/indexloom/data/DataLine" "bytes" "[B" .null := F0_bytes.other W6 (Or.inr (slot_ne (Or.inl (hw _ (List.mem_of_getElem? (i := 136) rfl))) (Or.inr (hw _ (List.mem_of_getElem? (i := 119) rfl))) (by decide) (t := (.array .byte)) (t' := (.object "com/example/indexloom/indexloom/data/DataHeader")) (by decide) (by decide)))
  have K13 : Keep h0 h5 [r0] := (Keep.refl h0 [r0]).wr W6 (Or.inl (List.mem_of_getElem? (i := 0) rfl))
  have E14 : Exa Z h5 r1 "com/example/indexloom/indexloom/data/DataHeader" := Eh.wr W6
  have F15 : Fld Z h5 r1 "com/example/indexloom/indexloom/data/DataHeader" "names" "[Ljava/lang/String;" (.ref t1) := Fn.other W6 (Or.inl (Ne.symm ne_r0_r1))
  have V16 : own_ArrR Z h5 t1 "java/lang/String" (1 : Int32) := Vn.other W6 (Ne.symm ne_r0_t1)
  show own_Go _ _ _ _ (T3.setTop (mkF m 9 #[.val (.ref r0), .val (.ref r1)] []))
  refine own_go (fun t_ k_ => XS.aloadN A4.here hx rfl (hb hby d20_9) rfl rfl k_) ?_
  show own_Go _ _ _ _ (T3.setTop (mkF m 10 #[.val (.ref r0), .val (.ref r1)] [(.ref r0)]))
  refine own_go (fun t_ k_ => XS.iconst A4.here hx rfl (hb hby d20_10) k_) ?_
  show own_Go _ _ _ _ (T3.setTop (mkF m 11 #[.val (.ref r0), .val (.ref r1)] [(.int (2 : Int32)), (.ref r0)]))
  refine own_go (fun t_ k_ => XS.aloadN A4.here hx rfl (hb hby d20_11) rfl rfl k_) ?_
  show own_Go _ _ _ _ (T3.setTop (mkF m 12 #[.val (.ref r0), .val (.ref r1)] [(.ref r1), (.int (2 : Int32)), (.ref r0)]))
  refine own_callV A4 hx hZ (y := (⟨"com/example/indexloom/indexloom/data/DataHeader", "size", "()I"⟩ : MethodName)) (z := (⟨"com/example/indexloom/indexloom/data/DataHeader", "size", "()I"⟩ : MethodName)) hown (hw _ (List.mem_of_getElem? (i := 120) rfl)) (hw _ (List.mem_of_getElem? (i := 121) rfl)) (hw _ (List.mem_of_getElem? (i := 123) rfl)) (hw _ (List.mem_of_getElem? (i := 122) rfl)) (hw _ (List.mem_of_getElem? (i := 15) rfl)) (hw _ (List.mem_of_getElem? (i := 124) rfl)) (notFace_of_selects (args := #[]) (mvT hZ (hw _ (List.mem_of_getElem? (i := 123) rfl)))) (by decide) (b := r1) (argsL := []) (rest := [(.int (2 : Int32)), (.ref r0)]) E14 (rm21 l Z a0 hw r1 t1 h5 n0 F15 V16) 2 (by decide) (by decide) rfl (by rw [hml]; rfl) (lenOf pd___I rfl) rfl (by show 2 * 0 + _ ≤ _; exact Nat.le_of_eq rfl) (hb hby d20_12) (by decide) (by decide) (fun v20 T17 h19 A18 hQ21 => ?_)
  obtain ⟨rfl, rfl⟩ := hQ21
  show own_Go _ _ _ _ (T17.setTop (mkF m 15 #[.val (.ref r0), .val (.ref r1)] [(.int (1 : Int32)), (.int (2 : Int32)), (.ref r0)]))
  refine own_go (fun t_ k_ => XS.imul A18.here hx rfl (hb hby d20_15) rfl k_) ?_
  show own_Go _ _ _ _ (T17.setTop (mkF m 16 #[.val (.ref r0), .val (.ref r1)] [(.int (2 : Int32)), (.ref r0)]))
  refine own_newP A18 hx hZ (hw _ (List.mem_of_getElem? (i := 69) rfl)) rfl rfl (hb hby d20_16) rfl (by decide) 2 (by decide) (by decide) (by decide) (by decide) (fun T22 h24 b25 ha_b25 A23 E26 V27 R28 => ?_)
  have ne_r0_b25 : r0 ≠ b25 := Nat.ne_of_lt (by rw [ha_b25]; exact E8.lt)
  have ne_r1_b25 : r1 ≠ b25 := Nat.ne_of_lt (by rw [ha_b25]; exact E14.lt)
  have ne_t1_b25 : t1 ≠ b25 := Nat.ne_of_lt (by rw [ha_b25]; exact V16.lt)
  have g_b25 : n0 ≤ b25 := by rw [ha_b25]; exact Z7
  have nw_b25 : h0.size ≤ b25 := by rw [ha_b25]; exact K13.1
  have Z29 : n0 ≤ h24.size := Nat.le_trans Z7 E26.1
  have E30 : Exa Z h24 r0 "com/example/indexloom/indexloom/data/DataLine" := E8.ext E26
  have F31 : Fld Z h24 r0 "com/example/indexloom/indexloom/data/DataLine" "header" "Lcom/example/indexloom/indexloom/data/DataHeader;" (.ref r1) := F9.ext E26
  have F32 : Fld Z h24 r0 "com/example/indexloom/indexloom/data/DataLine" "bounds" "[I" .null := F10.ext E26
  have F33 : Fld Z h24 r0 "com/example/indexloom/indexloom/data/DataLine" "number" "I" (.int (0 : Int32)) := F11.ext E26
  have F34 : Fld Z h24 r0 "com/example/indexloom/indexloom/data/DataLine" "bytes" "[B" .null := F12.ext E26
  have K35 : Keep h0 h24 [r0] := K13.ext E26
  have E36 : Exa Z h24 r1 "com/example/indexloom/indexloom/data/DataHeader" := E14.ext E26
  have F37 : Fld Z h24 r1 "com/example/indexloom/indexloom/data/DataHeader" "names" "[Ljava/lang/String;" (.ref t1) := F15.ext E26
  have V38 : own_ArrR Z h24 t1 "java/lang/String" (1 : Int32) := V16.ext E26
  show own_Go _ _ _ _ (T22.setTop (mkF m 18 #[.val (.ref r0), .val (.ref r1)] [(.ref b25), (.ref r0)]))
  refine own_putF A23 hx hZ hown (host := "") (Or.inl (hw _ (List.mem_of_getElem? (i := 125) rfl))) Via.refl F32 E30 (Or.inr ⟨(hw _ (List.mem_of_getElem? (i := 126) rfl)), rfl, hnm⟩) (hw _ (List.mem_of_getElem? (i := 112) rfl)) (ty := (.array .int)) (by decide) rfl rfl g0 rfl rfl (hb hby d20_18) (fun T39 h41 A40 W42 => ?_)
  have Z43 : n0 ≤ h41.size := Nat.le_trans Z29 (Nat.le_of_eq (Wr.size W42).symm)
  have E44 : Exa Z h41 r0 "com/example/indexloom/indexloom/data/DataLine" := E30.wr W42
  have F45 : Fld Z h41 r0 "com/example/indexloom/indexloom/data/DataLine" "header" "Lcom/example/indexloom/indexloom/data/DataHeader;" (.ref r1) := F31.other W42 (Or.inr (slot_ne (Or.inr (hw _ (List.mem_of_getElem? (i := 119) rfl))) (Or.inr (hw _ (List.mem_of_getElem? (i := 126) rfl))) (by decide) (t := (.object "com/example/indexloom/indexloom/data/DataHeader")) (t' := (.array .int)) (by decide) (by decide)))
  have F46 : Fld Z h41 r0 "com/example/indexloom/indexloom/data/DataLine" "bounds" "[I" (.ref b25) := F32.same W42
  have F47 : Fld Z h41 r0 "com/example/indexloom/indexloom/data/DataLine" "number" "I" (.int (0 : Int32)) := F33.other W42 (Or.inr (slot_ne (Or.inl (hw _ (List.mem_of_getElem? (i := 134) rfl))) (Or.inr (hw _ (List.mem_of_getElem? (i := 126) rfl))) (by decide) (t := .int) (t' := (.array .int)) (by decide) (by decide)))
  have F48 : Fld Z h41 r0 "com/example/indexloom/indexloom/data/DataLine" "bytes" "[B" .null := F34.other W42 (Or.inr (slot_ne (Or.inl (hw _ (List.mem_of_getElem? (i := 136) rfl))) (Or.inr (hw _ (List.mem_of_getElem? (i := 126) rfl))) (by decide) (t := (.array .byte)) (t' := (.array .int)) (by decide) (by decide)))
  have K49 : Keep h0 h41 [r0] := K35.wr W42 (Or.inl (List.mem_of_getElem? (i := 0) rfl))
  have E50 : Exa Z h41 r1 "com/example/indexloom/indexloom/data/DataHeader" := E36.wr W42
  have F51 : Fld Z h41 r1 "com/example/indexloom/indexloom/data/DataHeader" "names" "[Ljava/lang/String;" (.ref t1) := F37.other W42 (Or.inl (Ne.symm ne_r0_r1))
  have V52 : own_ArrR Z h41 t1 "java/lang/String" (1 : Int32) := V38.other W42 (Ne.symm ne_r0_t1)
  have V53 : own_Arr Z h41 b25 .int (2 : Int32) (fun _ => 0) := V27.other W42 (Ne.symm ne_r0_b25)
  show own_Go _ _ _ _ (T39.setTop (mkF m 21 #[.val (.ref r0), .val (.ref r1)] []))
  refine own_retV A40 hx hret hlk (by decide) (by decide) (hb hby d20_21) ?_
  exact ⟨rfl, K49, F45, F47, F48, b25, g_b25, nw_b25, F46, V53⟩
theorem ef_22 (m : MethodId) (r0 : Addr) (p1 : Int32) (r2 : Addr) (y3 : Int32) (y4 : Int32) : entryFrame m #[(.ref r0), (.int p1), (.ref r2), (.int y3), (.int y4)] 6 = mkF m 0 #[.val (.ref r0), .val (.int p1), .val (.ref r2), .val (.int y3), .val (.int y4), .unset] [] := by first | (simp [entryFrame, mkF, argsToLocals, Value.category]; done) | rfl
theorem d22_0 : decode prog_14_method_2_code 0 = .ok (.aload_n 2, 1) := by decide +kernel
theorem d22_1 : decode prog_14_method_2_code 1 = .ok (.iload_n 3, 1) := by decide +kernel
theorem d22_2 : decode prog_14_method_2_code 2 = .ok (.iload 4, 2) := by decide +kernel
theorem d22_4 : decode prog_14_method_2_code 4 = .ok (.aload_n 0, 1) := by decide +kernel
theorem d22_5 : decode prog_14_method_2_code 5 = .ok (.getfield 21, 3) := by decide +kernel
theorem d22_8 : decode prog_14_method_2_code 8 = .ok (.invokestatic 25, 3) := by decide +kernel
theorem d22_11 : decode prog_14_method_2_code 11 = .ok (.istore 5, 2) := by decide +kernel
theorem d22_13 : decode prog_14_method_2_code 13 = .ok (.iload 5, 2) := by decide +kernel
theorem d22_15 : decode prog_14_method_2_code 15 = .ok (.aload_n 0, 1) := by decide +kernel
theorem d22_16 : decode prog_14_method_2_code 16 = .ok (.getfield 9, 3) := by decide +kernel
theorem d22_19 : decode prog_14_method_2_code 19 = .ok (.invokevirtual 15, 3) := by decide +kernel
theorem d22_22 : decode prog_14_method_2_code 22 = .ok (.if_icmp .eq 14, 3) := by decide +kernel
theorem d22_36 : decode prog_14_method_2_code 36 = .ok (.aload_n 0, 1) := by decide +kernel
theorem d22_37 : decode prog_14_method_2_code 37 = .ok (.iload_n 1, 1) := by decide +kernel
theorem d22_38 : decode prog_14_method_2_code 38 = .ok (.putfield 33, 3) := by decide +kernel
theorem d22_41 : decode prog_14_method_2_code 41 = .ok (.aload_n 0, 1) := by decide +kernel
theorem d22_42 : decode prog_14_method_2_code 42 = .ok (.aload_n 2, 1) := by decide +kernel
theorem d22_43 : decode prog_14_method_2_code 43 = .ok (.putfield 37, 3) := by decide +kernel
theorem d22_46 : decode prog_14_method_2_code 46 = .ok (.return_, 1) := by decide +kernel
set_option maxRecDepth 65536 in
set_option maxHeartbeats 40000000 in
theorem rm22 (l : Launch) (Z : State) (a0 : Array Value) (hw : ∀ d ∈ tables_1, d.before a0 Z = true) (r0 : Addr) (p1 : Int32) (r2 : Addr) (i0 : Nat) (t : Nat) (r1 : Addr) (t1 : Addr) (bo : Addr) (nb : Int32) (fb : Int32 → Int32) (cm : Nat → Bool) (bl : Nat → Bool) (h0 : Heap) (n0 : Nat) (E0 : Exa Z h0 r0 "com/example/indexloom/indexloom/data/DataLine") (F0_header : Fld Z h0 r0 "com/example/indexloom/indexloom/data/DataLine" "header" "Lcom/example/indexloom/indexloom/data/DataHeader;" (.ref r1)) (F0_bounds : Fld Z h0 r0 "com/example/indexloom/indexloom/data/DataLine" "bounds" "[I" (.ref bo)) (F0_number : Fld Z h0 r0 "com/example/indexloom/indexloom/data/DataLine" "number" "I" (.int (0 : Int32))) (F0_bytes : Fld Z h0 r0 "com/example/indexloom/indexloom/data/DataLine" "bytes" "[B" .null) (g0 : n0 ≤ r0) (gb : n0 ≤ bo) (Eh : Exa Z h0 r1 "com/example/indexloom/indexloom/data/DataHeader") (Fn : Fld Z h0 r1 "com/example/indexloom/indexloom/data/DataHeader" "names" "[Ljava/lang/String;" (.ref t1)) (Vn : own_ArrR Z h0 t1 "java/lang/String" (1 : Int32)) (V2 : own_Arr Z h0 r2 .byte nb fb) (Vb : own_Arr Z h0 bo .int (2 : Int32) (fun _ => 0)) (ne_r0_r1 : r0 ≠ r1) (ne_r0_t1 : r0 ≠ t1) (ne_r0_r2 : r0 ≠ r2) (ne_r0_bo : r0 ≠ bo) (ne_bo_r1 : bo ≠ r1) (ne_bo_t1 : bo ≠ t1) (ne_bo_r2 : bo ≠ r2) (ht : (t : Int) ≤ nb.toInt) (htb : t < 2 ^ 29) (HC : own_Cls cm bl t fb) (hi : i0 ≤ t) (hcnt : Int32.ofNat (own_fields cm bl t (t - i0 + 1) i0).length = (1 : Int32)) :
    own_Met l Z n0 (⟨"com/example/indexloom/indexloom/data/DataLine", "set", "(I[BII)V"⟩ : MethodName) prog_14_method_2_code 6 none ({ frames := 2, cells := 0, slots := 0, locals := 33 } : Room) #[(.ref r0), (.int p1), (.ref r2), (.int (Int32.ofNat i0)), (.int (Int32.ofNat t))] h0 (fun v h => v = none ∧ Keep h0 h [r0, bo] ∧ Fld Z h r0 "com/example/indexloom/indexloom/data/DataLine" "bounds" "[I" (.ref bo) ∧ Fld Z h r0 "com/example/indexloom/indexloom/data/DataLine" "bytes" "[B" (.ref r2) ∧ ∃ c, own_Arr Z h bo .int (2 : Int32) c ∧ own_Bd 1 (own_fields cm bl t (t - i0 + 1) i0) (fun _ => 0) c) := by
  refine own_met (plainFor_of_name pn_20) ?_
  intro p e s m below meth c T0 hx hby hml hown hnm hret hlk hZ A0
  rw [ef_22]
  show own_Go _ _ _ _ (T0.setTop (mkF m 0 #[.val (.ref r0), .val (.int p1), .val (.ref r2), .val (.int (Int32.ofNat i0)), .val (.int (Int32.ofNat t)), .unset] []))
  refine own_go (fun t_ k_ => XS.aloadN A0.here hx rfl (hb hby d22_0) rfl rfl k_) ?_
  show own_Go _ _ _ _ (T0.setTop (mkF m 1 #[.val (.ref r0), .val (.int p1), .val (.ref r2), .val (.int (Int32.ofNat i0)), .val (.int (Int32.ofNat t)), .unset] [(.ref r2)]))
  refine own_go (fun t_ k_ => XS.iloadN A0.here hx rfl (hb hby d22_1) rfl k_) ?_
  show own_Go _ _ _ _ (T0.setTop (mkF m 2 #[.val (.ref r0), .val (.int p1), .val (.ref r2), .val (.int (Int32.ofNat i0)), .val (.int (Int32.ofNat t)), .unset] [(.int (Int32.ofNat i0)), (.ref r2)]))
  refine own_go (fun t_ k_ => XS.iload A0.here hx rfl (hb hby d22_2) rfl k_) ?_
  show own_Go _ _ _ _ (T0.setTop (mkF m 4 #[.val (.ref r0), .val (.int p1), .val (.ref r2), .val (.int (Int32.ofNat i0)), .val (.int (Int32.ofNat t)), .unset] [(.int (Int32.ofNat t)), (.int (Int32.ofNat i0)), (.ref r2)]))
  refine own_go (fun t_ k_ => XS.aloadN A0.here hx rfl (hb hby d22_4) rfl rfl k_) ?_
  show own_Go _ _ _ _ (T0.setTop (mkF m 5 #[.val (.ref r0), .val (.int p1), .val (.ref r2), .val (.int (Int32.ofNat i0)), .val (.int (Int32.ofNat t)), .unset] [(.ref r0), (.int (Int32.ofNat t)), (.int (Int32.ofNat i0)), (.ref r2)]))
  refine own_getF A0 hx hZ hown (host := "") (Or.inl (hw _ (List.mem_of_getElem? (i := 125) rfl))) Via.refl F0_bounds rfl rfl (hb hby d22_5) (fun T1 A2 => ?_)
  show own_Go _ _ _ _ (T1.setTop (mkF m 8 #[.val (.ref r0), .val (.int p1), .val (.ref r2), .val (.int (Int32.ofNat i0)), .val (.int (Int32.ofNat t)), .unset] [(.ref bo), (.int (Int32.ofNat t)), (.int (Int32.ofNat i0)), (.ref r2)]))
  refine own_callS A2 hx hZ hown (y := (⟨"com/example/indexloom/indexloom/data/DataHeader", "split", "([BII[I)I"⟩ : MethodName)) (hw _ (List.mem_of_getElem? (i := 132) rfl)) (hw _ (List.mem_of_getElem? (i := 71) rfl)) (hw _ (List.mem_of_getElem? (i := 15) rfl)) (hw _ (List.mem_of_getElem? (i := 72) rfl)) (by decide) (argsL := [(.ref r2), (.int (Int32.ofNat i0)), (.int (Int32.ofNat t)), (.ref bo)]) (rest := []) (rm12 l Z a0 hw r2 bo i0 t 1 nb fb (fun _ => 0) cm bl h0 n0 ht htb HC (by decide) hi V2 Vb (Ne.symm ne_bo_r2) gb) 0 (by decide) (by decide) rfl (by rw [hml]; rfl) (lenOf pd___BII_I_I rfl) rfl (by show 2 * 0 + _ ≤ _; exact Nat.le_of_eq rfl) (hb hby d22_8) (by decide) (by decide) (fun v6 T3 h5 A4 hQ7 => ?_)
  obtain ⟨rfl, K8, c9, V10, B11⟩ := hQ7
  have E12 : Exa Z h5 r0 "com/example/indexloom/indexloom/data/DataLine" := E0.keep K8
  have F13 : Fld Z h5 r0 "com/example/indexloom/indexloom/data/DataLine" "header" "Lcom/example/indexloom/indexloom/data/DataHeader;" (.ref r1) := F0_header.keep K8 (ninS ne_r0_bo nin0)
  have F14 : Fld Z h5 r0 "com/example/indexloom/indexloom/data/DataLine" "bounds" "[I" (.ref bo) := F0_bounds.keep K8 (ninS ne_r0_bo nin0)
  have F15 : Fld Z h5 r0 "com/example/indexloom/indexloom/data/DataLine" "number" "I" (.int (0 : Int32)) := F0_number.keep K8 (ninS ne_r0_bo nin0)
  have F16 : Fld Z h5 r0 "com/example/indexloom/indexloom/data/DataLine" "bytes" "[B" .null := F0_bytes.keep K8 (ninS ne_r0_bo nin0)
  have K17 : Keep h0 h5 [r0, bo] := (Keep.refl h0 [r0, bo]).trans K8 (allS (Or.inl (List.mem_of_getElem? (i := 1) rfl)) all0)
  have E18 : Exa Z h5 r1 "com/example/indexloom/indexloom/data/DataHeader" := Eh.keep K8
  have F19 : Fld Z h5 r1 "com/example/indexloom/indexloom/data/DataHeader" "names" "[Ljava/lang/String;" (.ref t1) := Fn.keep K8 (ninS (Ne.symm ne_bo_r1) nin0)
  have V20 : own_ArrR Z h5 t1 "java/lang/String" (1 : Int32) := Vn.keep K8 (ninS (Ne.symm ne_bo_t1) nin0)
  have V21 : own_Arr Z h5 r2 .byte nb fb := V2.keep K8 (ninS (Ne.symm ne_bo_r2) nin0)
  rw [hcnt]
  show own_Go _ _ _ _ (T3.setTop (mkF m 11 #[.val (.ref r0), .val (.int p1), .val (.ref r2), .val (.int (Int32.ofNat i0)), .val (.int (Int32.ofNat t)), .unset] [(.int (1 : Int32))]))
  refine own_go (fun t_ k_ => XS.istore A4.here hx rfl (hb hby d22_11) rfl (l' := #[.val (.ref r0), .val (.int p1), .val (.ref r2), .val (.int (Int32.ofNat i0)), .val (.int (Int32.ofNat t)), .val (.int (1 : Int32))]) rfl k_) ?_
  show own_Go _ _ _ _ (T3.setTop (mkF m 13 #[.val (.ref r0), .val (.int p1), .val (.ref r2), .val (.int (Int32.ofNat i0)), .val (.int (Int32.ofNat t)), .val (.int (1 : Int32))] []))
  refine own_go (fun t_ k_ => XS.iload A4.here hx rfl (hb hby d22_13) rfl k_) ?_
  show own_Go _ _ _ _ (T3.setTop (mkF m 15 #[.val (.ref r0), .val (.int p1), .val (.ref r2), .val (.int (Int32.ofNat i0)), .val (.int (Int32.ofNat t)), .val (.int (1 : Int32))] [(.int (1 : Int32))]))
  refine own_go (fun t_ k_ => XS.aloadN A4.here hx rfl (hb hby d22_15) rfl rfl k_) ?_
  show own_Go _ _ _ _ (T3.setTop (mkF m 16 #[.val (.ref r0), .val (.int p1), .val (.ref r2), .val (.int (Int32.ofNat i0)), .val (.int (Int32.ofNat t)), .val (.int (1 : Int32))] [(.ref r0), (.int (1 : Int32))]))
  refine own_getF A4 hx hZ hown (host := "") (Or.inl (hw _ (List.mem_of_getElem? (i := 118) rfl))) Via.refl F13 rfl rfl (hb hby d22_16) (fun T22 A23 => ?_)
  show own_Go _ _ _ _ (T22.setTop (mkF m 19 #[.val (.ref r0), .val (.int p1), .val (.ref r2), .val (.int (Int32.ofNat i0)), .val (.int (Int32.ofNat t)), .val (.int (1 : Int32))] [(.ref r1), (.int (1 : Int32))]))
  refine own_callV A23 hx hZ (y := (⟨"com/example/indexloom/indexloom/data/DataHeader", "size", "()I"⟩ : MethodName)) (z := (⟨"com/example/indexloom/indexloom/data/DataHeader", "size", "()I"⟩ : MethodName)) hown (hw _ (List.mem_of_getElem? (i := 120) rfl)) (hw _ (List.mem_of_getElem? (i := 121) rfl)) (hw _ (List.mem_of_getElem? (i := 123) rfl)) (hw _ (List.mem_of_getElem? (i := 122) rfl)) (hw _ (List.mem_of_getElem? (i := 15) rfl)) (hw _ (List.mem_of_getElem? (i := 124) rfl)) (notFace_of_selects (args := #[]) (mvT hZ (hw _ (List.mem_of_getElem? (i := 123) rfl)))) (by decide) (b := r1) (argsL := []) (rest := [(.int (1 : Int32))]) E18 (rm21 l Z a0 hw r1 t1 h5 n0 F19 V20) 1 (by decide) (by decide) rfl (by rw [hml]; rfl) (lenOf pd___I rfl) rfl (by show 2 * 0 + _ ≤ _; exact Nat.le_of_eq rfl) (hb hby d22_19) (by decide) (by decide) (fun v27 T24 h26 A25 hQ28 => ?_)
  obtain ⟨rfl, rfl⟩ := hQ28
  show own_Go _ _ _ _ (T24.setTop (mkF m 22 #[.val (.ref r0), .val (.int p1), .val (.ref r2), .val (.int (Int32.ofNat i0)), .val (.int (Int32.ofNat t)), .val (.int (1 : Int32))] [(.int (1 : Int32)), (.int (1 : Int32))]))
  have hc29 : (1 : Int32) = (1 : Int32) := (by decide)
  refine own_go (fun t_ k_ => XS.icmpYes A25.here hx rfl (pc0 := 22) (pc' := 36) rfl (hb hby d22_22) rfl (teq hc29).1 (by decide) (by decide) k_) ?_
  show own_Go _ _ _ _ (T24.setTop (mkF m 36 #[.val (.ref r0), .val (.int p1), .val (.ref r2), .val (.int (Int32.ofNat i0)), .val (.int (Int32.ofNat t)), .val (.int (1 : Int32))] []))
  refine own_go (fun t_ k_ => XS.aloadN A25.here hx rfl (hb hby d22_36) rfl rfl k_) ?_
  show own_Go _ _ _ _ (T24.setTop (mkF m 37 #[.val (.ref r0), .val (.int p1), .val (.ref r2), .val (.int (Int32.ofNat i0)), .val (.int (Int32.ofNat t)), .val (.int (1 : Int32))] [(.ref r0)]))
  refine own_go (fun t_ k_ => XS.iloadN A25.here hx rfl (hb hby d22_37) rfl k_) ?_
  show own_Go _ _ _ _ (T24.setTop (mkF m 38 #[.val (.ref r0), .val (.int p1), .val (.ref r2), .val (.int (Int32.ofNat i0)), .val (.int (Int32.ofNat t)), .val (.int (1 : Int32))] [(.int p1), (.ref r0)]))
  refine own_putF A25 hx hZ hown (host := "") (Or.inl (hw _ (List.mem_of_getElem? (i := 133) rfl))) Via.refl F15 E12 (Or.inl (hw _ (List.mem_of_getElem? (i := 134) rfl))) (hw _ (List.mem_of_getElem? (i := 112) rfl)) (ty := .int) (by decide) rfl rfl g0 rfl rfl (hb hby d22_38) (fun T30 h32 A31 W33 => ?_)
  have E34 : Exa Z h32 r0 "com/example/indexloom/indexloom/data/DataLine" := E12.wr W33
  have F35 : Fld Z h32 r0 "com/example/indexloom/indexloom/data/DataLine" "header" "Lcom/example/indexloom/indexloom/data/DataHeader;" (.ref r1) := F13.other W33 (Or.inr (slot_ne (Or.inr (hw _ (List.mem_of_getElem? (i := 119) rfl))) (Or.inl (hw _ (List.mem_of_getElem? (i := 134) rfl))) (by decide) (t := (.object "com/example/indexloom/indexloom/data/DataHeader")) (t' := .int) (by decide) (by decide)))
  have F36 : Fld Z h32 r0 "com/example/indexloom/indexloom/data/DataLine" "bounds" "[I" (.ref bo) := F14.other W33 (Or.inr (slot_ne (Or.inr (hw _ (List.mem_of_getElem? (i := 126) rfl))) (Or.inl (hw _ (List.mem_of_getElem? (i := 134) rfl))) (by decide) (t := (.array .int)) (t' := .int) (by decide) (by decide)))
  have F37 : Fld Z h32 r0 "com/example/indexloom/indexloom/data/DataLine" "number" "I" (.int p1) := F15.same W33
  have F38 : Fld Z h32 r0 "com/example/indexloom/indexloom/data/DataLine" "bytes" "[B" .null := F16.other W33 (Or.inr (slot_ne (Or.inl (hw _ (List.mem_of_getElem? (i := 136) rfl))) (Or.inl (hw _ (List.mem_of_getElem? (i := 134) rfl))) (by decide) (t := (.array .byte)) (t' := .int) (by decide) (by decide)))
  have K39 : Keep h0 h32 [r0, bo] := K17.wr W33 (Or.inl (List.mem_of_getElem? (i := 0) rfl))
  have E40 : Exa Z h32 r1 "com/example/indexloom/indexloom/data/DataHeader" := E18.wr W33
  have F41 : Fld Z h32 r1 "com/example/indexloom/indexloom/data/DataHeader" "names" "[Ljava/lang/String;" (.ref t1) := F19.other W33 (Or.inl (Ne.symm ne_r0_r1))
  have V42 : own_ArrR Z h32 t1 "java/lang/String" (1 : Int32) := V20.other W33 (Ne.symm ne_r0_t1)
  have V43 : own_Arr Z h32 r2 .byte nb fb := V21.other W33 (Ne.symm ne_r0_r2)
  have V44 : own_Arr Z h32 bo .int (2 : Int32) c9 := V10.other W33 (Ne.symm ne_r0_bo)
  show own_Go _ _ _ _ (T30.setTop (mkF m 41 #[.val (.ref r0), .val (.int p1), .val (.ref r2), .val (.int (Int32.ofNat i0)), .val (.int (Int32.ofNat t)), .val (.int (1 : Int32))] []))
  refine own_go (fun t_ k_ => XS.aloadN A31.here hx rfl (hb hby d22_41) rfl rfl k_) ?_
  show own_Go _ _ _ _ (T30.setTop (mkF m 42 #[.val (.ref r0), .val (.int p1), .val (.ref r2), .val (.int (Int32.ofNat i0)), .val (.int (Int32.ofNat t)), .val (.int (1 : Int32))] [(.ref r0)]))
  refine own_go (fun t_ k_ => XS.aloadN A31.here hx rfl (hb hby d22_42) rfl rfl k_) ?_
  show own_Go _ _ _ _ (T30.setTop (mkF m 43 #[.val (.ref r0), .val (.int p1), .val (.ref r2), .val (.int (Int32.ofNat i0)), .val (.int (Int32.ofNat t)), .val (.int (1 : Int32))] [(.ref r2), (.ref r0)]))
  refine own_putF A31 hx hZ hown (host := "") (Or.inl (hw _ (List.mem_of_getElem? (i := 135) rfl))) Via.refl F38 E34 (Or.inl (hw _ (List.mem_of_getElem? (i := 136) rfl))) (hw _ (List.mem_of_getElem? (i := 112) rfl)) (ty := (.array .byte)) (by decide) rfl rfl g0 rfl rfl (hb hby d22_43) (fun T45 h47 A46 W48 => ?_)
  have E49 : Exa Z h47 r0 "com/example/indexloom/indexloom/data/DataLine" := E34.wr W48
  have F50 : Fld Z h47 r0 "com/example/indexloom/indexloom/data/DataLine" "header" "Lcom/example/indexloom/indexloom/data/DataHeader;" (.ref r1) := F35.other W48 (Or.inr (slot_ne (Or.inr (hw _ (List.mem_of_getElem? (i := 119) rfl))) (Or.inl (hw _ (List.mem_of_getElem? (i := 136) rfl))) (by decide) (t := (.object "com/example/indexloom/indexloom/data/DataHeader")) (t' := (.array .byte)) (by decide) (by decide)))
  have F51 : Fld Z h47 r0 "com/example/indexloom/indexloom/data/DataLine" "bounds" "[I" (.ref bo) := F36.other W48 (Or.inr (slot_ne (Or.inr (hw _ (List.mem_of_getElem? (i := 126) rfl))) (Or.inl (hw _ (List.mem_of_getElem? (i := 136) rfl))) (by decide) (t := (.array .int)) (t' := (.array .byte)) (by decide) (by decide)))
  have F52 : Fld Z h47 r0 "com/example/indexloom/indexloom/data/DataLine" "number" "I" (.int p1) := F37.other W48 (Or.inr (slot_ne (Or.inl (hw _ (List.mem_of_getElem? (i := 134) rfl))) (Or.inl (hw _ (List.mem_of_getElem? (i := 136) rfl))) (by decide) (t := .int) (t' := (.array .byte)) (by decide) (by decide)))
  have F53 : Fld Z h47 r0 "com/example/indexloom/indexloom/data/DataLine" "bytes" "[B" (.ref r2) := F38.same W48
  have K54 : Keep h0 h47 [r0, bo] := K39.wr W48 (Or.inl (List.mem_of_getElem? (i := 0) rfl))
  have E55 : Exa Z h47 r1 "com/example/indexloom/indexloom/data/DataHeader" := E40.wr W48
  have F56 : Fld Z h47 r1 "com/example/indexloom/indexloom/data/DataHeader" "names" "[Ljava/lang/String;" (.ref t1) := F41.other W48 (Or.inl (Ne.symm ne_r0_r1))
  have V57 : own_ArrR Z h47 t1 "java/lang/String" (1 : Int32) := V42.other W48 (Ne.symm ne_r0_t1)
  have V58 : own_Arr Z h47 r2 .byte nb fb := V43.other W48 (Ne.symm ne_r0_r2)
  have V59 : own_Arr Z h47 bo .int (2 : Int32) c9 := V44.other W48 (Ne.symm ne_r0_bo)
  show own_Go _ _ _ _ (T45.setTop (mkF m 46 #[.val (.ref r0), .val (.int p1), .val (.ref r2), .val (.int (Int32.ofNat i0)), .val (.int (Int32.ofNat t)), .val (.int (1 : Int32))] []))
  refine own_retV A46 hx hret hlk (by decide) (by decide) (hb hby d22_46) ?_
  exact ⟨rfl, K54, F51, F53, _, V59, B11⟩
theorem ef_24 (m : MethodId) (r0 : Addr) (p1 : Int32) : entryFrame m #[(.ref r0), (.int p1)] 2 = mkF m 0 #[.val (.ref r0), .val (.int p1)] [] := by first | (simp [entryFrame, mkF, argsToLocals, Value.category]; done) | rfl
theorem d24_0 : decode prog_14_method_15_code 0 = .ok (.aload_n 0, 1) := by decide +kernel
theorem d24_1 : decode prog_14_method_15_code 1 = .ok (.getfield 21, 3) := by decide +kernel
theorem d24_4 : decode prog_14_method_15_code 4 = .ok (.iconst 2, 1) := by decide +kernel
theorem d24_5 : decode prog_14_method_15_code 5 = .ok (.iload_n 1, 1) := by decide +kernel
theorem d24_6 : decode prog_14_method_15_code 6 = .ok (.imul, 1) := by decide +kernel
theorem d24_7 : decode prog_14_method_15_code 7 = .ok (.iaload, 1) := by decide +kernel
theorem d24_8 : decode prog_14_method_15_code 8 = .ok (.ireturn, 1) := by decide +kernel
def f24 (p1 : Int32) (c_ : Int32 → Int32) : Int32 := (c_ ((2 : Int32) * p1))
set_option maxRecDepth 65536 in
set_option maxHeartbeats 40000000 in
theorem rm24 (l : Launch) (Z : State) (a0 : Array Value) (hw : ∀ d ∈ tables_1, d.before a0 Z = true) (r0 : Addr) (p1 : Int32) (t0 : Addr) (c_ : Int32 → Int32) (h0 : Heap) (n0 : Nat) (Fb : Fld Z h0 r0 "com/example/indexloom/indexloom/data/DataLine" "bounds" "[I" (.ref t0)) (Vb : own_Arr Z h0 t0 .int (2 : Int32) c_) (hin : ¬ ((2 : Int32) * p1) < 0 ∧ ((2 : Int32) * p1) < 2) :
    own_Met l Z n0 (⟨"com/example/indexloom/indexloom/data/DataLine", "start", "(I)I"⟩ : MethodName) prog_14_method_15_code 2 (some .int) ({ frames := 0, cells := 0, slots := 0, locals := 0 } : Room) #[(.ref r0), (.int p1)] h0 (fun v h => v = some (.int (f24 p1 c_)) ∧ h0 = h) := by
  refine own_met (plainFor_of_name pn_20) ?_
  intro p e s m below meth c T0 hx hby hml hown hnm hret hlk hZ A0
  rw [ef_24]
  show own_Go _ _ _ _ (T0.setTop (mkF m 0 #[.val (.ref r0), .val (.int p1)] []))
  refine own_go (fun t_ k_ => XS.aloadN A0.here hx rfl (hb hby d24_0) rfl rfl k_) ?_
  show own_Go _ _ _ _ (T0.setTop (mkF m 1 #[.val (.ref r0), .val (.int p1)] [(.ref r0)]))
  refine own_getF A0 hx hZ hown (host := "") (Or.inl (hw _ (List.mem_of_getElem? (i := 125) rfl))) Via.refl Fb rfl rfl (hb hby d24_1) (fun T1 A2 => ?_)
  show own_Go _ _ _ _ (T1.setTop (mkF m 4 #[.val (.ref r0), .val (.int p1)] [(.ref t0)]))
  refine own_go (fun t_ k_ => XS.iconst A2.here hx rfl (hb hby d24_4) k_) ?_
  show own_Go _ _ _ _ (T1.setTop (mkF m 5 #[.val (.ref r0), .val (.int p1)] [(.int (2 : Int32)), (.ref t0)]))
  refine own_go (fun t_ k_ => XS.iloadN A2.here hx rfl (hb hby d24_5) rfl k_) ?_
  show own_Go _ _ _ _ (T1.setTop (mkF m 6 #[.val (.ref r0), .val (.int p1)] [(.int p1), (.int (2 : Int32)), (.ref t0)]))
  refine own_go (fun t_ k_ => XS.imul A2.here hx rfl (hb hby d24_6) rfl k_) ?_
  show own_Go _ _ _ _ (T1.setTop (mkF m 7 #[.val (.ref r0), .val (.int p1)] [(.int ((2 : Int32) * p1)), (.ref t0)]))
  refine own_ldI A2 hx hZ Vb hin rfl rfl (hb hby d24_7) ?_
  show own_Go _ _ _ _ (T1.setTop (mkF m 8 #[.val (.ref r0), .val (.int p1)] [(.int (c_ ((2 : Int32) * p1)))]))
  refine own_retI A2 hx hret hlk (by decide) (by decide) (hb hby d24_8) ?_
  exact ⟨rfl, rfl⟩
theorem ef_25 (m : MethodId) (r0 : Addr) (p1 : Int32) : entryFrame m #[(.ref r0), (.int p1)] 2 = mkF m 0 #[.val (.ref r0), .val (.int p1)] [] := by first | (simp [entryFrame, mkF, argsToLocals, Value.category]; done) | rfl
theorem d25_0 : decode prog_14_method_16_code 0 = .ok (.aload_n 0, 1) := by decide +kernel
theorem d25_1 : decode prog_14_method_16_code 1 = .ok (.getfield 21, 3) := by decide +kernel
theorem d25_4 : decode prog_14_method_16_code 4 = .ok (.iconst 2, 1) := by decide +kernel
theorem d25_5 : decode prog_14_method_16_code 5 = .ok (.iload_n 1, 1) := by decide +kernel
theorem d25_6 : decode prog_14_method_16_code 6 = .ok (.imul, 1) := by decide +kernel
theorem d25_7 : decode prog_14_method_16_code 7 = .ok (.iconst 1, 1) := by decide +kernel
theorem d25_8 : decode prog_14_method_16_code 8 = .ok (.iadd, 1) := by decide +kernel
theorem d25_9 : decode prog_14_method_16_code 9 = .ok (.iaload, 1) := by decide +kernel
theorem d25_10 : decode prog_14_method_16_code 10 = .ok (.ireturn, 1) := by decide +kernel
def f25 (p1 : Int32) (c_ : Int32 → Int32) : Int32 := (c_ (((2 : Int32) * p1) + (1 : Int32)))
set_option maxRecDepth 65536 in
set_option maxHeartbeats 40000000 in
theorem rm25 (l : Launch) (Z : State) (a0 : Array Value) (hw : ∀ d ∈ tables_1, d.before a0 Z = true) (r0 : Addr) (p1 : Int32) (t0 : Addr) (c_ : Int32 → Int32) (h0 : Heap) (n0 : Nat) (Fb : Fld Z h0 r0 "com/example/indexloom/indexloom/data/DataLine" "bounds" "[I" (.ref t0)) (Vb : own_Arr Z h0 t0 .int (2 : Int32) c_) (hin : ¬ (((2 : Int32) * p1) + (1 : Int32)) < 0 ∧ (((2 : Int32) * p1) + (1 : Int32)) < 2) :
    own_Met l Z n0 (⟨"com/example/indexloom/indexloom/data/DataLine", "end", "(I)I"⟩ : MethodName) prog_14_method_16_code 2 (some .int) ({ frames := 0, cells := 0, slots := 0, locals := 0 } : Room) #[(.ref r0), (.int p1)] h0 (fun v h => v = some (.int (f25 p1 c_)) ∧ h0 = h) := by
  refine own_met (plainFor_of_name pn_20) ?_
  intro p e s m below meth c T0 hx hby hml hown hnm hret hlk hZ A0
  rw [ef_25]
  show own_Go _ _ _ _ (T0.setTop (mkF m 0 #[.val (.ref r0), .val (.int p1)] []))
  refine own_go (fun t_ k_ => XS.aloadN A0.here hx rfl (hb hby d25_0) rfl rfl k_) ?_
  show own_Go _ _ _ _ (T0.setTop (mkF m 1 #[.val (.ref r0), .val (.int p1)] [(.ref r0)]))
  refine own_getF A0 hx hZ hown (host := "") (Or.inl (hw _ (List.mem_of_getElem? (i := 125) rfl))) Via.refl Fb rfl rfl (hb hby d25_1) (fun T1 A2 => ?_)
  show own_Go _ _ _ _ (T1.setTop (mkF m 4 #[.val (.ref r0), .val (.int p1)] [(.ref t0)]))
  refine own_go (fun t_ k_ => XS.iconst A2.here hx rfl (hb hby d25_4) k_) ?_
  show own_Go _ _ _ _ (T1.setTop (mkF m 5 #[.val (.ref r0), .val (.int p1)] [(.int (2 : Int32)), (.ref t0)]))
  refine own_go (fun t_ k_ => XS.iloadN A2.here hx rfl (hb hby d25_5) rfl k_) ?_
  show own_Go _ _ _ _ (T1.setTop (mkF m 6 #[.val (.ref r0), .val (.int p1)] [(.int p1), (.int (2 : Int32)), (.ref t0)]))
  refine own_go (fun t_ k_ => XS.imul A2.here hx rfl (hb hby d25_6) rfl k_) ?_
  show own_Go _ _ _ _ (T1.setTop (mkF m 7 #[.val (.ref r0), .val (.int p1)] [(.int ((2 : Int32) * p1)), (.ref t0)]))
  refine own_go (fun t_ k_ => XS.iconst A2.here hx rfl (hb hby d25_7) k_) ?_
  show own_Go _ _ _ _ (T1.setTop (mkF m 8 #[.val (.ref r0), .val (.int p1)] [(.int (1 : Int32)), (.int ((2 : Int32) * p1)), (.ref t0)]))
  refine own_go (fun t_ k_ => XS.iadd A2.here hx rfl (hb hby d25_8) rfl k_) ?_
  show own_Go _ _ _ _ (T1.setTop (mkF m 9 #[.val (.ref r0), .val (.int p1)] [(.int (((2 : Int32) * p1) + (1 : Int32))), (.ref t0)]))
  refine own_ldI A2 hx hZ Vb hin rfl rfl (hb hby d25_9) ?_
  show own_Go _ _ _ _ (T1.setTop (mkF m 10 #[.val (.ref r0), .val (.int p1)] [(.int (c_ (((2 : Int32) * p1) + (1 : Int32))))]))
  refine own_retI A2 hx hret hlk (by decide) (by decide) (hb hby d25_10) ?_
  exact ⟨rfl, rfl⟩
theorem ef_1 (m : MethodId) (p0 : Int32) (p1 : Int32) : entryFrame m #[(.int p0), (.int p1)] 3 = mkF m 0 #[.val (.int p0), .val (.int p1), .unset] [] := by first | (simp [entryFrame, mkF, argsToLocals, Value.category]; done) | rfl
theorem pn_1 : plainName "com/example/indexloom/indexloom/data/DataLineScalePinLaw" = true := by first | (simp [plainName, overriddenIn]; done) | decide +kernel
theorem d1_0 : decode method_4_code 0 = .ok (.iload_n 0, 1) := by decide +kernel
theorem d1_1 : decode method_4_code 1 = .ok (.iconst 2, 1) := by decide +kernel
theorem d1_2 : decode method_4_code 2 = .ok (.iload_n 1, 1) := by decide +kernel
theorem d1_3 : decode method_4_code 3 = .ok (.imul, 1) := by decide +kernel
theorem d1_4 : decode method_4_code 4 = .ok (.iushr, 1) := by decide +kernel
theorem d1_5 : decode method_4_code 5 = .ok (.iconst 3, 1) := by decide +kernel
theorem d1_6 : decode method_4_code 6 = .ok (.iand, 1) := by decide +kernel
theorem d1_7 : decode method_4_code 7 = .ok (.iconst 3, 1) := by decide +kernel
theorem d1_8 : decode method_4_code 8 = .ok (.irem, 1) := by decide +kernel
theorem d1_9 : decode method_4_code 9 = .ok (.istore_n 2, 1) := by decide +kernel
theorem d1_10 : decode method_4_code 10 = .ok (.iload_n 2, 1) := by decide +kernel
theorem d1_11 : decode method_4_code 11 = .ok (.ifCond .ne 6, 3) := by decide +kernel
theorem d1_14 : decode method_4_code 14 = .ok (.bipush 32, 2) := by decide +kernel
theorem d1_16 : decode method_4_code 16 = .ok (.ireturn, 1) := by decide +kernel
theorem d1_17 : decode method_4_code 17 = .ok (.iload_n 2, 1) := by decide +kernel
theorem d1_18 : decode method_4_code 18 = .ok (.iconst 1, 1) := by decide +kernel
theorem d1_19 : decode method_4_code 19 = .ok (.if_icmp .ne 6, 3) := by decide +kernel
theorem d1_22 : decode method_4_code 22 = .ok (.bipush 9, 2) := by decide +kernel
theorem d1_24 : decode method_4_code 24 = .ok (.ireturn, 1) := by decide +kernel
theorem d1_25 : decode method_4_code 25 = .ok (.bipush 13, 2) := by decide +kernel
theorem d1_27 : decode method_4_code 27 = .ok (.ireturn, 1) := by decide +kernel
def f1 (p0 : Int32) (p1 : Int32) : Int32 := (if ((((p0.toUInt32 >>> (((2 : Int32) * p1) &&& 31).toUInt32).toInt32) &&& (3 : Int32)) % (3 : Int32)) = (0 : Int32) then (32 : Int32) else (if ((((p0.toUInt32 >>> (((2 : Int32) * p1) &&& 31).toUInt32).toInt32) &&& (3 : Int32)) % (3 : Int32)) = (1 : Int32) then (9 : Int32) else (13 : Int32)))
set_option maxRecDepth 65536 in
set_option maxHeartbeats 40000000 in
theorem rm1 (l : Launch) (Z : State) (a0 : Array Value) (hw : ∀ d ∈ tables_1, d.before a0 Z = true) (p0 : Int32) (p1 : Int32) (h0 : Heap) (n0 : Nat) :
    own_Met l Z n0 (⟨"com/example/indexloom/indexloom/data/DataLineScalePinLaw", "blank", "(II)B"⟩ : MethodName) method_4_code 3 (some .byte) ({ frames := 0, cells := 0, slots := 0, locals := 0 } : Room) #[(.int p0), (.int p1)] h0 (fun v h => v = some (.int (f1 p0 p1)) ∧ h0 = h) := by
  refine own_met (plainFor_of_name pn_1) ?_
  intro p e s m below meth c T0 hx hby hml hown hnm hret hlk hZ A0
  rw [ef_1]
  show own_Go _ _ _ _ (T0.setTop (mkF m 0 #[.val (.int p0), .val (.int p1), .unset] []))
  refine own_go (fun t_ k_ => XS.iloadN A0.here hx rfl (hb hby d1_0) rfl k_) ?_
  show own_Go _ _ _ _ (T0.setTop (mkF m 1 #[.val (.int p0), .val (.int p1), .unset] [(.int p0)]))
  refine own_go (fun t_ k_ => XS.iconst A0.here hx rfl (hb hby d1_1) k_) ?_
  show own_Go _ _ _ _ (T0.setTop (mkF m 2 #[.val (.int p0), .val (.int p1), .unset] [(.int (2 : Int32)), (.int p0)]))
  refine own_go (fun t_ k_ => XS.iloadN A0.here hx rfl (hb hby d1_2) rfl k_) ?_
  show own_Go _ _ _ _ (T0.setTop (mkF m 3 #[.val (.int p0), .val (.int p1), .unset] [(.int p1), (.int (2 : Int32)), (.int p0)]))
  refine own_go (fun t_ k_ => XS.imul A0.here hx rfl (hb hby d1_3) rfl k_) ?_
  show own_Go _ _ _ _ (T0.setTop (mkF m 4 #[.val (.int p0), .val (.int p1), .unset] [(.int ((2 : Int32) * p1)), (.int p0)]))
  refine own_go (fun t_ k_ => XS.iushr A0.here hx rfl (hb hby d1_4) rfl k_) ?_
  show own_Go _ _ _ _ (T0.setTop (mkF m 5 #[.val (.int p0), .val (.int p1), .unset] [(.int ((p0.toUInt32 >>> (((2 : Int32) * p1) &&& 31).toUInt32).toInt32))]))
  refine own_go (fun t_ k_ => XS.iconst A0.here hx rfl (hb hby d1_5) k_) ?_
  show own_Go _ _ _ _ (T0.setTop (mkF m 6 #[.val (.int p0), .val (.int p1), .unset] [(.int (3 : Int32)), (.int ((p0.toUInt32 >>> (((2 : Int32) * p1) &&& 31).toUInt32).toInt32))]))
  refine own_go (fun t_ k_ => XS.iand A0.here hx rfl (hb hby d1_6) rfl k_) ?_
  show own_Go _ _ _ _ (T0.setTop (mkF m 7 #[.val (.int p0), .val (.int p1), .unset] [(.int (((p0.toUInt32 >>> (((2 : Int32) * p1) &&& 31).toUInt32).toInt32) &&& (3 : Int32)))]))
  generalize hx1 : (((p0.toUInt32 >>> (((2 : Int32) * p1) &&& 31).toUInt32).toInt32) &&& (3 : Int32)) = x1
  show own_Go _ _ _ _ (T0.setTop (mkF m 7 #[.val (.int p0), .val (.int p1), .unset] [(.int x1)]))
  refine own_go (fun t_ k_ => XS.iconst A0.here hx rfl (hb hby d1_7) k_) ?_
  show own_Go _ _ _ _ (T0.setTop (mkF m 8 #[.val (.int p0), .val (.int p1), .unset] [(.int (3 : Int32)), (.int x1)]))
  refine own_go (fun t_ k_ => own_irem A0.here hx rfl (hb hby d1_8) rfl (by decide) k_) ?_
  show own_Go _ _ _ _ (T0.setTop (mkF m 9 #[.val (.int p0), .val (.int p1), .unset] [(.int (x1 % (3 : Int32)))]))
  refine own_go (fun t_ k_ => XS.istoreN A0.here hx rfl (hb hby d1_9) rfl (l' := #[.val (.int p0), .val (.int p1), .val (.int (x1 % (3 : Int32)))]) rfl k_) ?_
  show own_Go _ _ _ _ (T0.setTop (mkF m 10 #[.val (.int p0), .val (.int p1), .val (.int (x1 % (3 : Int32)))] []))
  refine own_go (fun t_ k_ => XS.iloadN A0.here hx rfl (hb hby d1_10) rfl k_) ?_
  show own_Go _ _ _ _ (T0.setTop (mkF m 11 #[.val (.int p0), .val (.int p1), .val (.int (x1 % (3 : Int32)))] [(.int (x1 % (3 : Int32)))]))
  by_cases hc2 : (x1 % (3 : Int32)) = (0 : Int32)
  ·
    refine own_go (fun t_ k_ => XS.ifNo A0.here hx rfl (hb hby d1_11) rfl ((if0 _ _).trans (teq hc2).2) k_) ?_
    show own_Go _ _ _ _ (T0.setTop (mkF m 14 #[.val (.int p0), .val (.int p1), .val (.int (x1 % (3 : Int32)))] []))
    refine own_go (fun t_ k_ => XS.bipush A0.here hx rfl (hb hby d1_14) k_) ?_
    show own_Go _ _ _ _ (T0.setTop (mkF m 16 #[.val (.int p0), .val (.int p1), .val (.int (x1 % (3 : Int32)))] [(.int (32 : Int32))]))
    refine own_retN A0 hx (t := .byte) hret (by simp) hlk (by decide) (by decide) (hb hby d1_16) ?_
    subst hx1
    exact ⟨congrArg (fun z => some (Value.int z)) (by simp only [f1, if_pos hc2] <;> rfl), rfl⟩
  ·
    refine own_go (fun t_ k_ => XS.ifYes A0.here hx rfl (pc0 := 11) (pc' := 17) rfl (hb hby d1_11) rfl ((if0 _ _).trans (feq hc2).2) (by decide) (by decide) k_) ?_
    show own_Go _ _ _ _ (T0.setTop (mkF m 17 #[.val (.int p0), .val (.int p1), .val (.int (x1 % (3 : Int32)))] []))
    refine own_go (fun t_ k_ => XS.iloadN A0.here hx rfl (hb hby d1_17) rfl k_) ?_
    show own_Go _ _ _ _ (T0.setTop (mkF m 18 #[.val (.int p0), .val (.int p1), .val (.int (x1 % (3 : Int32)))] [(.int (x1 % (3 : Int32)))]))
    refine own_go (fun t_ k_ => XS.iconst A0.here hx rfl (hb hby d1_18) k_) ?_
    show own_Go _ _ _ _ (T0.setTop (mkF m 19 #[.val (.int p0), .val (.int p1), .val (.int (x1 % (3 : Int32)))] [(.int (1 : Int32)), (.int (x1 % (3 : Int32)))]))
    by_cases hc3 : (x1 % (3 : Int32)) = (1 : Int32)
    ·
      refine own_go (fun t_ k_ => XS.icmpNo A0.here hx rfl (hb hby d1_19) rfl (teq hc3).2 k_) ?_
      show own_Go _ _ _ _ (T0.setTop (mkF m 22 #[.val (.int p0), .val (.int p1), .val (.int (x1 % (3 : Int32)))] []))
      refine own_go (fun t_ k_ => XS.bipush A0.here hx rfl (hb hby d1_22) k_) ?_
      show own_Go _ _ _ _ (T0.setTop (mkF m 24 #[.val (.int p0), .val (.int p1), .val (.int (x1 % (3 : Int32)))] [(.int (9 : Int32))]))
      refine own_retN A0 hx (t := .byte) hret (by simp) hlk (by decide) (by decide) (hb hby d1_24) ?_
      subst hx1
      exact ⟨congrArg (fun z => some (Value.int z)) (by simp only [f1, if_neg hc2, if_pos hc3] <;> rfl), rfl⟩
    ·
      refine own_go (fun t_ k_ => XS.icmpYes A0.here hx rfl (pc0 := 19) (pc' := 25) rfl (hb hby d1_19) rfl (feq hc3).2 (by decide) (by decide) k_) ?_
      show own_Go _ _ _ _ (T0.setTop (mkF m 25 #[.val (.int p0), .val (.int p1), .val (.int (x1 % (3 : Int32)))] []))
      refine own_go (fun t_ k_ => XS.bipush A0.here hx rfl (hb hby d1_25) k_) ?_
      show own_Go _ _ _ _ (T0.setTop (mkF m 27 #[.val (.int p0), .val (.int p1), .val (.int (x1 % (3 : Int32)))] [(.int (13 : Int32))]))
      refine own_retN A0 hx (t := .byte) hret (by simp) hlk (by decide) (by decide) (hb hby d1_27) ?_
      subst hx1
      exact ⟨congrArg (fun z => some (Value.int z)) (by simp only [f1, if_neg hc2, if_neg hc3] <;> rfl), rfl⟩
theorem ef_3 (m : MethodId) (q0 : Int64) (p1 : Int32) : entryFrame m #[(.long q0), (.int p1)] 3 = mkF m 0 #[.val (.long q0), .second, .val (.int p1)] [] := by first | (simp [entryFrame, mkF, argsToLocals, Value.category]; done) | rfl
theorem d3_0 : decode method_5_code 0 = .ok (.bipush 48, 2) := by decide +kernel
theorem d3_2 : decode method_5_code 2 = .ok (.lload_n 0, 1) := by decide +kernel
theorem d3_3 : decode method_5_code 3 = .ok (.iconst 4, 1) := by decide +kernel
theorem d3_4 : decode method_5_code 4 = .ok (.iload_n 2, 1) := by decide +kernel
theorem d3_5 : decode method_5_code 5 = .ok (.imul, 1) := by decide +kernel
theorem d3_6 : decode method_5_code 6 = .ok (.lushr, 1) := by decide +kernel
theorem d3_7 : decode method_5_code 7 = .ok (.ldc2_w 43, 3) := by decide +kernel
theorem d3_10 : decode method_5_code 10 = .ok (.land, 1) := by decide +kernel
theorem d3_11 : decode method_5_code 11 = .ok (.ldc2_w 45, 3) := by decide +kernel
theorem d3_14 : decode method_5_code 14 = .ok (.lrem, 1) := by decide +kernel
theorem d3_15 : decode method_5_code 15 = .ok (.l2i, 1) := by decide +kernel
theorem d3_16 : decode method_5_code 16 = .ok (.iadd, 1) := by decide +kernel
theorem d3_17 : decode method_5_code 17 = .ok (.i2b, 1) := by decide +kernel
theorem d3_18 : decode method_5_code 18 = .ok (.ireturn, 1) := by decide +kernel
def f3 (q0 : Int64) (p1 : Int32) : Int32 := (nar .byte (((48 : Int32) + (((((q0.toUInt64 >>> (((4 : Int32) * p1) &&& 0x3f).toInt64.toUInt64).toInt64) &&& (15 : Int64)) % (10 : Int64)).toInt32)).toInt8.toInt32))
set_option maxRecDepth 65536 in
set_option maxHeartbeats 40000000 in
theorem rm3 (l : Launch) (Z : State) (a0 : Array Value) (hw : ∀ d ∈ tables_1, d.before a0 Z = true) (q0 : Int64) (p1 : Int32) (h0 : Heap) (n0 : Nat) :
    own_Met l Z n0 (⟨"com/example/indexloom/indexloom/data/DataLineScalePinLaw", "digit", "(JI)B"⟩ : MethodName) method_5_code 3 (some .byte) ({ frames := 0, cells := 0, slots := 0, locals := 0 } : Room) #[(.long q0), (.int p1)] h0 (fun v h => v = some (.int (f3 q0 p1)) ∧ h0 = h) := by
  refine own_met (plainFor_of_name pn_1) ?_
  intro p e s m below meth c T0 hx hby hml hown hnm hret hlk hZ A0
  rw [ef_3]
  show own_Go _ _ _ _ (T0.setTop (mkF m 0 #[.val (.long q0), .second, .val (.int p1)] []))
  refine own_go (fun t_ k_ => XS.bipush A0.here hx rfl (hb hby d3_0) k_) ?_
  show own_Go _ _ _ _ (T0.setTop (mkF m 2 #[.val (.long q0), .second, .val (.int p1)] [(.int (48 : Int32))]))
  refine own_go (fun t_ k_ => XS.lloadN A0.here hx rfl (hb hby d3_2) rfl k_) ?_
  show own_Go _ _ _ _ (T0.setTop (mkF m 3 #[.val (.long q0), .second, .val (.int p1)] [(.long q0), (.int (48 : Int32))]))
  refine own_go (fun t_ k_ => XS.iconst A0.here hx rfl (hb hby d3_3) k_) ?_
  show own_Go _ _ _ _ (T0.setTop (mkF m 4 #[.val (.long q0), .second, .val (.int p1)] [(.int (4 : Int32)), (.long q0), (.int (48 : Int32))]))
  refine own_go (fun t_ k_ => XS.iloadN A0.here hx rfl (hb hby d3_4) rfl k_) ?_
  show own_Go _ _ _ _ (T0.setTop (mkF m 5 #[.val (.long q0), .second, .val (.int p1)] [(.int p1), (.int (4 : Int32)), (.long q0), (.int (48 : Int32))]))
  refine own_go (fun t_ k_ => XS.imul A0.here hx rfl (hb hby d3_5) rfl k_) ?_
  show own_Go _ _ _ _ (T0.setTop (mkF m 6 #[.val (.long q0), .second, .val (.int p1)] [(.int ((4 : Int32) * p1)), (.long q0), (.int (48 : Int32))]))
  refine own_go (fun t_ k_ => XS.lushr A0.here hx rfl (hb hby d3_6) rfl k_) ?_
  show own_Go _ _ _ _ (T0.setTop (mkF m 7 #[.val (.long q0), .second, .val (.int p1)] [(.long ((q0.toUInt64 >>> (((4 : Int32) * p1) &&& 0x3f).toInt64.toUInt64).toInt64)), (.int (48 : Int32))]))
  refine own_ldcJ A0 hx hZ hown (hw _ (List.mem_of_getElem? (i := 11) rfl)) rfl (hb hby d3_7) ?_
  show own_Go _ _ _ _ (T0.setTop (mkF m 10 #[.val (.long q0), .second, .val (.int p1)] [(.long (15 : Int64)), (.long ((q0.toUInt64 >>> (((4 : Int32) * p1) &&& 0x3f).toInt64.toUInt64).toInt64)), (.int (48 : Int32))]))
  refine own_go (fun t_ k_ => XS.land A0.here hx rfl (hb hby d3_10) rfl k_) ?_
  show own_Go _ _ _ _ (T0.setTop (mkF m 11 #[.val (.long q0), .second, .val (.int p1)] [(.long (((q0.toUInt64 >>> (((4 : Int32) * p1) &&& 0x3f).toInt64.toUInt64).toInt64) &&& (15 : Int64))), (.int (48 : Int32))]))
  refine own_ldcJ A0 hx hZ hown (hw _ (List.mem_of_getElem? (i := 12) rfl)) rfl (hb hby d3_11) ?_
  show own_Go _ _ _ _ (T0.setTop (mkF m 14 #[.val (.long q0), .second, .val (.int p1)] [(.long (10 : Int64)), (.long (((q0.toUInt64 >>> (((4 : Int32) * p1) &&& 0x3f).toInt64.toUInt64).toInt64) &&& (15 : Int64))), (.int (48 : Int32))]))
  refine own_go (fun t_ k_ => own_lrem A0.here hx rfl (hb hby d3_14) rfl (by decide) k_) ?_
  show own_Go _ _ _ _ (T0.setTop (mkF m 15 #[.val (.long q0), .second, .val (.int p1)] [(.long ((((q0.toUInt64 >>> (((4 : Int32) * p1) &&& 0x3f).toInt64.toUInt64).toInt64) &&& (15 : Int64)) % (10 : Int64))), (.int (48 : Int32))]))
  refine own_go (fun t_ k_ => XS.l2i A0.here hx rfl (hb hby d3_15) rfl k_) ?_
  show own_Go _ _ _ _ (T0.setTop (mkF m 16 #[.val (.long q0), .second, .val (.int p1)] [(.int (((((q0.toUInt64 >>> (((4 : Int32) * p1) &&& 0x3f).toInt64.toUInt64).toInt64) &&& (15 : Int64)) % (10 : Int64)).toInt32)), (.int (48 : Int32))]))
  refine own_go (fun t_ k_ => XS.iadd A0.here hx rfl (hb hby d3_16) rfl k_) ?_
  show own_Go _ _ _ _ (T0.setTop (mkF m 17 #[.val (.long q0), .second, .val (.int p1)] [(.int ((48 : Int32) + (((((q0.toUInt64 >>> (((4 : Int32) * p1) &&& 0x3f).toInt64.toUInt64).toInt64) &&& (15 : Int64)) % (10 : Int64)).toInt32)))]))
  refine own_go (fun t_ k_ => XS.i2b A0.here hx rfl (hb hby d3_17) rfl k_) ?_
  show own_Go _ _ _ _ (T0.setTop (mkF m 18 #[.val (.long q0), .second, .val (.int p1)] [(.int (((48 : Int32) + (((((q0.toUInt64 >>> (((4 : Int32) * p1) &&& 0x3f).toInt64.toUInt64).toInt64) &&& (15 : Int64)) % (10 : Int64)).toInt32)).toInt8.toInt32))]))
  refine own_retN A0 hx (t := .byte) hret (by simp) hlk (by decide) (by decide) (hb hby d3_18) ?_
  exact ⟨rfl, rfl⟩
/-- the kinds of bytes: 0 blank, 1 any other, 2 the point, 3 the comma -/
def own_kn (b : Int32) : Nat := if b = 32 ∨ b = 9 ∨ b = 13 then 0 else if b = 46 then 2 else if b = 44 then 3 else 1
theorem own_kn0 (b : Int32) : own_kn b = 0 ↔ (b = 32 ∨ b = 9 ∨ b = 13) := by
  unfold own_kn
  by_cases h : b = 32 ∨ b = 9 ∨ b = 13
  · rw [if_pos h]; exact ⟨fun _ => h, fun _ => rfl⟩
  · rw [if_neg h]
    refine ⟨fun z => ?_, fun z => absurd z h⟩
    repeat' split at z
    all_goals omega
theorem own_kn2 (b : Int32) : own_kn b = 2 ↔ b = 46 := by
  unfold own_kn
  by_cases h : b = 32 ∨ b = 9 ∨ b = 13
  · rw [if_pos h]
    exact ⟨fun z => absurd z (by decide), fun z => by subst z; exact absurd h (by decide)⟩
  · rw [if_neg h]
    by_cases h2 : b = 46
    · rw [if_pos h2]; exact ⟨fun _ => h2, fun _ => rfl⟩
    · rw [if_neg h2]
      refine ⟨fun z => ?_, fun z => absurd z h2⟩
      split at z <;> omega
theorem own_kn3 (b : Int32) : b = 44 → own_kn b = 3 := by intro h; subst h; decide
def own_app (ks : List Nat) (w : Bool) (k : Nat) : List Nat := if w = true then ks ++ [k] else ks
theorem own_app_len (ks : List Nat) (w : Bool) (k : Nat) : (own_app ks w k).length ≤ ks.length + 1 := by
  unfold own_app
  split
  · rw [List.length_append, List.length_singleton]; exact Nat.le_refl _
  · exact Nat.le_succ _
/-- what lies in the bytes from off on, and before it -/
def own_Inv (off : Nat) (fb : Int32 → Int32) (ks : List Nat) : Prop := (∀ i, i < off → own_kn (fb (Int32.ofNat i)) = 1 ∨ own_kn (fb (Int32.ofNat i)) = 2) ∧ (∀ j, j < ks.length → own_kn (fb (Int32.ofNat (off + j))) = ks.getD j 1) ∧ ∀ j, j < ks.length → ks.getD j 1 < 3
theorem own_Inv.put {off : Nat} {fb : Int32 → Int32} {ks : List Nat} {b : Int32} {kd : Nat} (hI : own_Inv off fb ks) (hk : off + ks.length < 22) (hkd : own_kn b = kd) (h3 : kd < 3) : own_Inv off (fun i => if i = Int32.ofNat (off + ks.length) then b else fb i) (own_app ks true kd) := by
  have e : own_app ks true kd = ks ++ [kd] := rfl
  have g : ∀ j, j < ks.length → (ks ++ [kd]).getD j 1 = ks.getD j 1 := fun j hj => by rw [List.getD_eq_getElem?_getD, List.getD_eq_getElem?_getD, List.getElem?_append_left hj]
  have gl : (ks ++ [kd]).getD ks.length 1 = kd := by
    rw [List.getD_eq_getElem?_getD, List.getElem?_append_right (Nat.le_refl _), Nat.sub_self]
    rfl
  rw [e]
  refine ⟨fun i hi => ?_, fun j hj => ?_, fun j hj => ?_⟩
  · dsimp only
    rw [if_neg (fun z => by have := (own_neq (by omega) (by omega)).mp z; omega)]
    exact hI.1 i hi
  · rw [List.length_append, List.length_singleton] at hj
    dsimp only
    by_cases q : j = ks.length
    · subst q
      rw [if_pos rfl, gl, hkd]
    · rw [if_neg (fun z => by have := (own_neq (by omega) (by omega)).mp z; omega), g j (by omega)]
      exact hI.2.1 j (by omega)
  · rw [List.length_append, List.length_singleton] at hj
    by_cases q : j = ks.length
    · subst q
      rw [gl]
      exact h3
    · rw [g j (by omega)]
      exact hI.2.2 j (by omega)
theorem own_ff {p2 : Int32} {wf : Bool} (h : p2 = (if wf = true then 1 else 0)) (z : p2 = 0) : wf = false := by
  cases wf
  · rfl
  · rw [z] at h; exact absurd h (by decide)
theorem own_ft {p2 : Int32} {wf : Bool} (h : p2 = (if wf = true then 1 else 0)) (z : ¬ p2 = 0) : wf = true := by
  cases wf
  · exact absurd h z
  · rfl
theorem own_gt (n k : Nat) (hn : n < 2 ^ 31) (hk : k < 2 ^ 31) : (if Int32.ofNat k < Int32.ofNat n then (1 : Int32) else 0) = (if (decide (k < n)) = true then 1 else 0) := by
  by_cases h : k < n
  · rw [if_pos ((own_nlt hk hn).mpr h), if_pos (decide_eq_true h)]
  · rw [if_neg (fun z => h ((own_nlt hk hn).mp z)), if_neg (fun z => h (of_decide_eq_true z))]
theorem own_gt2 (b : Bool) (n k : Nat) (hn : n < 2 ^ 31) (hk : k < 2 ^ 31) : (if (if b = true then (1 : Int32) else 0) = (0 : Int32) then (0 : Int32) else (if Int32.ofNat k < Int32.ofNat n then (1 : Int32) else 0)) = (if (b && decide (k < n)) = true then 1 else 0) := by
  cases b
  · rfl
  · rw [own_gt n k hn hk]
    rw [if_neg (by decide), Bool.true_and]
theorem own_and3 (x : Int32) : ∃ n : Nat, n < 4 ∧ (x &&& (3 : Int32)) = Int32.ofNat n := by
  have h : (x &&& (3 : Int32)).toInt = x.toInt % 4 := c_mask x 3 2 (by decide) rfl
  refine ⟨(x &&& (3 : Int32)).toInt.toNat, by omega, Int32.toInt_inj.mp ?_⟩
  rw [own_nI (by omega)]
  omega
theorem own_and31 (x : Int32) : ∃ n : Nat, (1 ≤ n ∧ n < 5) ∧ ((1 : Int32) + (x &&& (3 : Int32))) = Int32.ofNat n := by
  obtain ⟨n, hn, e⟩ := own_and3 x
  refine ⟨1 + n, by omega, ?_⟩
  rw [e]
  exact own_nadd 1 n
theorem own_flag (c : Prop) [Decidable c] : ∃ b : Bool, (if c then (0 : Int32) else (1 : Int32)) = (if b = true then (1 : Int32) else 0) := by
  by_cases h : c
  · exact ⟨false, by rw [if_pos h]; rfl⟩
  · exact ⟨true, by rw [if_neg h]; rfl⟩
theorem own_bg (c : Prop) [Decidable c] : ∃ bg : Int32, (bg = 46 ∨ bg = 51) ∧ (if c then (46 : Int32) else (51 : Int32)) = bg := by
  by_cases h : c
  · exact ⟨46, Or.inl rfl, if_pos h⟩
  · exact ⟨51, Or.inr rfl, if_neg h⟩
theorem own_kblank (x z : Int32) : own_kn (nar .byte (f1 x z)) = 0 := by
  unfold f1
  repeat' split
  all_goals decide
theorem own_kdig (q : Int64) (z : Int32) : own_kn (nar .byte (f3 q z)) = 1 := by
  unfold f3
  generalize ((q.toUInt64 >>> (((4 : Int32) * z) &&& 0x3f).toInt64.toUInt64).toInt64) = a
  have h1 : (a &&& (15 : Int64)).toInt = a.toInt % 16 := c_maskL a 15 4 (by decide) rfl
  have h2 : ((a &&& (15 : Int64)) % (10 : Int64)).toInt = a.toInt % 16 % 10 := by
    rw [Int64.toInt_mod, h1, show (10 : Int64).toInt = 10 from rfl, Int.tmod_eq_emod_of_nonneg (by omega)]
  generalize (a &&& (15 : Int64)) % (10 : Int64) = y at h2
  have h3 := c_l2i y
  have h3' := rng32 y.toInt32
  have h4 := c_iadd 48 y.toInt32
  have h5 := rng32 ((48 : Int32) + y.toInt32)
  have e48 : (48 : Int32).toInt = 48 := rfl
  have h6 : ((48 : Int32) + y.toInt32).toInt = 48 + a.toInt % 16 % 10 := by omega
  generalize (48 : Int32) + y.toInt32 = b at h6
  have i1 : ∀ x : Int32, 48 ≤ x.toInt → x.toInt < 58 → x.toInt8.toInt32 = x := fun x l1 l2 => by
    have k := c_i2b x
    exact Int32.toInt_inj.mp (by omega)
  have e1 : b.toInt8.toInt32 = b := i1 b (by omega) (by omega)
  have e2 : nar .byte b = b := e1
  rw [e1, e2, e2]
  have ne : ∀ k : Int32, (k.toInt < 48) → b ≠ k := fun k hk z => by rw [z] at h6; omega
  unfold own_kn
  rw [if_neg (by rintro (z | z | z) <;> exact ne _ (by decide) z), if_neg (ne 46 (by decide)), if_neg (ne 44 (by decide))]
def own_blk (off : Nat) (ks : List Nat) (i : Nat) : Bool := decide (off ≤ i) && decide (ks.getD (i - off) 1 = 0)
def own_dotk (off : Nat) (ks : List Nat) (i : Nat) : Bool := decide (off ≤ i) && decide (ks.getD (i - off) 1 = 2)
theorem own_clsK (off : Nat) (fb : Int32 → Int32) (ks : List Nat) (hI : own_Inv off fb ks) : own_Cls (fun _ => false) (own_blk off ks) (off + ks.length) fb := by
  intro i hi
  unfold own_blk
  rw [Bool.and_eq_true, decide_eq_true_iff, decide_eq_true_iff, ← own_kn0]
  by_cases h : off ≤ i
  · have e : off + (i - off) = i := by omega
    have k := hI.2.1 (i - off) (by omega)
    have k3 := hI.2.2 (i - off) (by omega)
    rw [e] at k
    refine ⟨⟨fun z => ?_, fun z => Bool.noConfusion z⟩, ?_⟩
    · have := own_kn3 _ z
      omega
    · rw [k]
      exact ⟨fun z => ⟨h, z⟩, fun z => z.2⟩
  · have k := hI.1 i (by omega)
    refine ⟨⟨fun z => ?_, fun z => Bool.noConfusion z⟩, fun z => ?_, fun z => absurd z.1 h⟩
    · have := own_kn3 _ z
      omega
    · omega
theorem own_dotK (off : Nat) (fb : Int32 → Int32) (ks : List Nat) (hI : own_Inv off fb ks) (i : Nat) (h : off ≤ i) (hi : i < off + ks.length) : fb (Int32.ofNat i) = 46 ↔ own_dotk off ks i = true := by
  unfold own_dotk
  have e : off + (i - off) = i := by omega
  have k := hI.2.1 (i - off) (by omega)
  rw [e] at k
  rw [Bool.and_eq_true, decide_eq_true_iff, decide_eq_true_iff, ← own_kn2, k]
  exact ⟨fun z => ⟨h, z⟩, fun z => z.2⟩
def own_scan (dot : Nat → Bool) (sn : Nat) : Nat → Nat
  | 0 => 0
  | i + 1 => if sn < i + 1 then (if dot i = true then i + 1 else own_scan dot sn i) else i + 1
def own_res (dot : Nat → Bool) (sn en i : Nat) : Int32 := if own_scan dot sn i = sn then 0 else Int32.ofNat en - Int32.ofNat (own_scan dot sn i)
theorem own_res_end (dot : Nat → Bool) (sn en i : Nat) (h : i ≤ sn) (hs : sn ≤ i) : (0 : Int32) = own_res dot sn en i := by
  have e : i = sn := Nat.le_antisymm h hs
  subst e
  have q : own_scan dot i i = i := by
    cases i with
    | zero => rfl
    | succ k => rw [own_scan, if_neg (Nat.lt_irrefl _)]
  rw [own_res, if_pos q]
theorem own_res_dot (dot : Nat → Bool) (sn en i : Nat) (hi : i + 1 ≤ en) (h : sn < i + 1) (hd : dot i = true) : (Int32.ofNat en - Int32.ofNat (i + 1)) = own_res dot sn en (i + 1) := by
  have q : own_scan dot sn (i + 1) = i + 1 := by rw [own_scan, if_pos h, if_pos hd]
  rw [own_res, q, if_neg (by omega)]
theorem own_res_next (dot : Nat → Bool) (sn en i : Nat) (h : sn < i + 1) (hd : ¬ dot i = true) : own_res dot sn en (i + 1) = own_res dot sn en i := by
  have q : own_scan dot sn (i + 1) = own_scan dot sn i := by rw [own_scan, if_pos h, if_neg hd]
  rw [own_res, own_res, q]
def own_ks (nb : Nat) (neg : Bool) (ni : Nat) (pt : Bool) (nf nt : Nat) : List Nat := own_app (own_app (own_app (own_app (own_app (own_app (own_app (own_app (own_app (own_app (own_app (own_app (own_app (own_app (own_app (own_app [] (decide (0 < nb)) 0) (decide (1 < nb)) 0) (decide (2 < nb)) 0) neg 1) true 1) (decide (1 < ni)) 1) (decide (2 < ni)) 1) (decide (3 < ni)) 1) pt 2) pt 1) (pt && decide (1 < nf)) 1) (pt && decide (2 < nf)) 1) (pt && decide (3 < nf)) 1) (decide (0 < nt)) 0) (decide (1 < nt)) 0) (decide (2 < nt)) 0
def own_one (off : Nat) (ks : List Nat) (pt : Bool) (nf : Nat) : Bool := match own_fields (fun _ => false) (own_blk off ks) (off + ks.length) (off + ks.length - off + 1) off with
  | [(a, b)] => decide (a ≤ b) && decide (off ≤ a) && decide (b ≤ off + ks.length) && decide (own_res (own_dotk off ks) a b b = (if (if pt = true then (1 : Int32) else 0) = (0 : Int32) then (0 : Int32) else (Int32.ofNat nf)))
  | _ => false
theorem own_one_spec {off : Nat} {ks : List Nat} {pt : Bool} {nf : Nat} (h : own_one off ks pt nf = true) : Int32.ofNat (own_fields (fun _ => false) (own_blk off ks) (off + ks.length) (off + ks.length - off + 1) off).length = (1 : Int32) ∧ ((own_fields (fun _ => false) (own_blk off ks) (off + ks.length) (off + ks.length - off + 1) off).getD 0 (0, 0)).1 ≤ ((own_fields (fun _ => false) (own_blk off ks) (off + ks.length) (off + ks.length - off + 1) off).getD 0 (0, 0)).2 ∧ off ≤ ((own_fields (fun _ => false) (own_blk off ks) (off + ks.length) (off + ks.length - off + 1) off).getD 0 (0, 0)).1 ∧ ((own_fields (fun _ => false) (own_blk off ks) (off + ks.length) (off + ks.length - off + 1) off).getD 0 (0, 0)).2 ≤ off + ks.length ∧ (own_fields (fun _ => false) (own_blk off ks) (off + ks.length) (off + ks.length - off + 1) off).length = 1 ∧
    own_res (own_dotk off ks) ((own_fields (fun _ => false) (own_blk off ks) (off + ks.length) (off + ks.length - off + 1) off).getD 0 (0, 0)).1 ((own_fields (fun _ => false) (own_blk off ks) (off + ks.length) (off + ks.length - off + 1) off).getD 0 (0, 0)).2 ((own_fields (fun _ => false) (own_blk off ks) (off + ks.length) (off + ks.length - off + 1) off).getD 0 (0, 0)).2 = (if (if pt = true then (1 : Int32) else 0) = (0 : Int32) then (0 : Int32) else (Int32.ofNat nf)) := by
  unfold own_one at h
  generalize own_fields (fun _ => false) (own_blk off ks) (off + ks.length) (off + ks.length - off + 1) off = fs at h ⊢
  match fs, h with
  | [(a, b)], h =>
    rw [Bool.and_eq_true, Bool.and_eq_true, Bool.and_eq_true] at h
    exact ⟨rfl, of_decide_eq_true h.1.1.1, of_decide_eq_true h.1.1.2, of_decide_eq_true h.1.2, rfl, of_decide_eq_true h.2⟩
def own_many (off nb ni : Nat) : Bool := [true, false].all fun neg => [true, false].all fun pt => (List.range 4).all fun nf => (List.range 4).all fun nt => own_one off (own_ks nb neg (ni + 1) pt (nf + 1) nt) pt (nf + 1)
set_option maxRecDepth 100000 in
theorem own_m_0_0_0 : own_many 0 0 0 = true := by decide +kernel
set_option maxRecDepth 100000 in
theorem own_m_0_0_1 : own_many 0 0 1 = true := by decide +kernel
set_option maxRecDepth 100000 in
theorem own_m_0_0_2 : own_many 0 0 2 = true := by decide +kernel
set_option maxRecDepth 100000 in
theorem own_m_0_0_3 : own_many 0 0 3 = true := by decide +kernel
set_option maxRecDepth 100000 in
theorem own_m_0_1_0 : own_many 0 1 0 = true := by decide +kernel
set_option maxRecDepth 100000 in
theorem own_m_0_1_1 : own_many 0 1 1 = true := by decide +kernel
set_option maxRecDepth 100000 in
theorem own_m_0_1_2 : own_many 0 1 2 = true := by decide +kernel
set_option maxRecDepth 100000 in
theorem own_m_0_1_3 : own_many 0 1 3 = true := by decide +kernel
set_option maxRecDepth 100000 in
theorem own_m_0_2_0 : own_many 0 2 0 = true := by decide +kernel
set_option maxRecDepth 100000 in
theorem own_m_0_2_1 : own_many 0 2 1 = true := by decide +kernel
set_option maxRecDepth 100000 in
theorem own_m_0_2_2 : own_many 0 2 2 = true := by decide +kernel
set_option maxRecDepth 100000 in
theorem own_m_0_2_3 : own_many 0 2 3 = true := by decide +kernel
set_option maxRecDepth 100000 in
theorem own_m_0_3_0 : own_many 0 3 0 = true := by decide +kernel
set_option maxRecDepth 100000 in
theorem own_m_0_3_1 : own_many 0 3 1 = true := by decide +kernel
set_option maxRecDepth 100000 in
theorem own_m_0_3_2 : own_many 0 3 2 = true := by decide +kernel
set_option maxRecDepth 100000 in
theorem own_m_0_3_3 : own_many 0 3 3 = true := by decide +kernel
set_option maxRecDepth 100000 in
theorem own_m_1_0_0 : own_many 1 0 0 = true := by decide +kernel
set_option maxRecDepth 100000 in
theorem own_m_1_0_1 : own_many 1 0 1 = true := by decide +kernel
set_option maxRecDepth 100000 in
theorem own_m_1_0_2 : own_many 1 0 2 = true := by decide +kernel
set_option maxRecDepth 100000 in
theorem own_m_1_0_3 : own_many 1 0 3 = true := by decide +kernel
set_option maxRecDepth 100000 in
theorem own_m_1_1_0 : own_many 1 1 0 = true := by decide +kernel
set_option maxRecDepth 100000 in
theorem own_m_1_1_1 : own_many 1 1 1 = true := by decide +kernel
set_option maxRecDepth 100000 in
theorem own_m_1_1_2 : own_many 1 1 2 = true := by decide +kernel
set_option maxRecDepth 100000 in
theorem own_m_1_1_3 : own_many 1 1 3 = true := by decide +kernel
set_option maxRecDepth 100000 in
theorem own_m_1_2_0 : own_many 1 2 0 = true := by decide +kernel
set_option maxRecDepth 100000 in
theorem own_m_1_2_1 : own_many 1 2 1 = true := by decide +kernel
set_option maxRecDepth 100000 in
theorem own_m_1_2_2 : own_many 1 2 2 = true := by decide +kernel
set_option maxRecDepth 100000 in
theorem own_m_1_2_3 : own_many 1 2 3 = true := by decide +kernel
set_option maxRecDepth 100000 in
theorem own_m_1_3_0 : own_many 1 3 0 = true := by decide +kernel
set_option maxRecDepth 100000 in
theorem own_m_1_3_1 : own_many 1 3 1 = true := by decide +kernel
set_option maxRecDepth 100000 in
theorem own_m_1_3_2 : own_many 1 3 2 = true := by decide +kernel
set_option maxRecDepth 100000 in
theorem own_m_1_3_3 : own_many 1 3 3 = true := by decide +kernel
set_option maxRecDepth 100000 in
theorem own_m_2_0_0 : own_many 2 0 0 = true := by decide +kernel
set_option maxRecDepth 100000 in
theorem own_m_2_0_1 : own_many 2 0 1 = true := by decide +kernel
set_option maxRecDepth 100000 in
theorem own_m_2_0_2 : own_many 2 0 2 = true := by decide +kernel
set_option maxRecDepth 100000 in
theorem own_m_2_0_3 : own_many 2 0 3 = true := by decide +kernel
set_option maxRecDepth 100000 in
theorem own_m_2_1_0 : own_many 2 1 0 = true := by decide +kernel
set_option maxRecDepth 100000 in
theorem own_m_2_1_1 : own_many 2 1 1 = true := by decide +kernel
set_option maxRecDepth 100000 in
theorem own_m_2_1_2 : own_many 2 1 2 = true := by decide +kernel
set_option maxRecDepth 100000 in
theorem own_m_2_1_3 : own_many 2 1 3 = true := by decide +kernel
set_option maxRecDepth 100000 in
theorem own_m_2_2_0 : own_many 2 2 0 = true := by decide +kernel
set_option maxRecDepth 100000 in
theorem own_m_2_2_1 : own_many 2 2 1 = true := by decide +kernel
set_option maxRecDepth 100000 in
theorem own_m_2_2_2 : own_many 2 2 2 = true := by decide +kernel
set_option maxRecDepth 100000 in
theorem own_m_2_2_3 : own_many 2 2 3 = true := by decide +kernel
set_option maxRecDepth 100000 in
theorem own_m_2_3_0 : own_many 2 3 0 = true := by decide +kernel
set_option maxRecDepth 100000 in
theorem own_m_2_3_1 : own_many 2 3 1 = true := by decide +kernel
set_option maxRecDepth 100000 in
theorem own_m_2_3_2 : own_many 2 3 2 = true := by decide +kernel
set_option maxRecDepth 100000 in
theorem own_m_2_3_3 : own_many 2 3 3 = true := by decide +kernel
set_option maxRecDepth 100000 in
theorem own_m_3_0_0 : own_many 3 0 0 = true := by decide +kernel
set_option maxRecDepth 100000 in
theorem own_m_3_0_1 : own_many 3 0 1 = true := by decide +kernel
set_option maxRecDepth 100000 in
theorem own_m_3_0_2 : own_many 3 0 2 = true := by decide +kernel
set_option maxRecDepth 100000 in
theorem own_m_3_0_3 : own_many 3 0 3 = true := by decide +kernel
set_option maxRecDepth 100000 in
theorem own_m_3_1_0 : own_many 3 1 0 = true := by decide +kernel
set_option maxRecDepth 100000 in
theorem own_m_3_1_1 : own_many 3 1 1 = true := by decide +kernel
set_option maxRecDepth 100000 in
theorem own_m_3_1_2 : own_many 3 1 2 = true := by decide +kernel
set_option maxRecDepth 100000 in
theorem own_m_3_1_3 : own_many 3 1 3 = true := by decide +kernel
set_option maxRecDepth 100000 in
theorem own_m_3_2_0 : own_many 3 2 0 = true := by decide +kernel
set_option maxRecDepth 100000 in
theorem own_m_3_2_1 : own_many 3 2 1 = true := by decide +kernel
set_option maxRecDepth 100000 in
theorem own_m_3_2_2 : own_many 3 2 2 = true := by decide +kernel
set_option maxRecDepth 100000 in
theorem own_m_3_2_3 : own_many 3 2 3 = true := by decide +kernel
set_option maxRecDepth 100000 in
theorem own_m_3_3_0 : own_many 3 3 0 = true := by decide +kernel
set_option maxRecDepth 100000 in
theorem own_m_3_3_1 : own_many 3 3 1 = true := by decide +kernel
set_option maxRecDepth 100000 in
theorem own_m_3_3_2 : own_many 3 3 2 = true := by decide +kernel
set_option maxRecDepth 100000 in
theorem own_m_3_3_3 : own_many 3 3 3 = true := by decide +kernel
theorem own_all (a b d : Nat) (h1 : a < 4) (h2 : b < 4) (h3 : d < 4) : own_many a b d = true := by
  rcases (by omega : a = 0 ∨ a = 1 ∨ a = 2 ∨ a = 3) with rfl | rfl | rfl | rfl <;> rcases (by omega : b = 0 ∨ b = 1 ∨ b = 2 ∨ b = 3) with rfl | rfl | rfl | rfl <;> rcases (by omega : d = 0 ∨ d = 1 ∨ d = 2 ∨ d = 3) with rfl | rfl | rfl | rfl
  · exact own_m_0_0_0
  · exact own_m_0_0_1
  · exact own_m_0_0_2
  · exact own_m_0_0_3
  · exact own_m_0_1_0
  · exact own_m_0_1_1
  · exact own_m_0_1_2
  · exact own_m_0_1_3
  · exact own_m_0_2_0
  · exact own_m_0_2_1
  · exact own_m_0_2_2
  · exact own_m_0_2_3
  · exact own_m_0_3_0
  · exact own_m_0_3_1
  · exact own_m_0_3_2
  · exact own_m_0_3_3
  · exact own_m_1_0_0
  · exact own_m_1_0_1
  · exact own_m_1_0_2
  · exact own_m_1_0_3
  · exact own_m_1_1_0
  · exact own_m_1_1_1
  · exact own_m_1_1_2
  · exact own_m_1_1_3
  · exact own_m_1_2_0
  · exact own_m_1_2_1
  · exact own_m_1_2_2
  · exact own_m_1_2_3
  · exact own_m_1_3_0
  · exact own_m_1_3_1
  · exact own_m_1_3_2
  · exact own_m_1_3_3
  · exact own_m_2_0_0
  · exact own_m_2_0_1
  · exact own_m_2_0_2
  · exact own_m_2_0_3
  · exact own_m_2_1_0
  · exact own_m_2_1_1
  · exact own_m_2_1_2
  · exact own_m_2_1_3
  · exact own_m_2_2_0
  · exact own_m_2_2_1
  · exact own_m_2_2_2
  · exact own_m_2_2_3
  · exact own_m_2_3_0
  · exact own_m_2_3_1
  · exact own_m_2_3_2
  · exact own_m_2_3_3
  · exact own_m_3_0_0
  · exact own_m_3_0_1
  · exact own_m_3_0_2
  · exact own_m_3_0_3
  · exact own_m_3_1_0
  · exact own_m_3_1_1
  · exact own_m_3_1_2
  · exact own_m_3_1_3
  · exact own_m_3_2_0
  · exact own_m_3_2_1
  · exact own_m_3_2_2
  · exact own_m_3_2_3
  · exact own_m_3_3_0
  · exact own_m_3_3_1
  · exact own_m_3_3_2
  · exact own_m_3_3_3
theorem own_plain (off nb ni nf nt : Nat) (neg pt : Bool) (h1 : off < 4) (h2 : nb < 4) (h3 : 1 ≤ ni ∧ ni < 5) (h4 : 1 ≤ nf ∧ nf < 5) (h5 : nt < 4) : own_one off (own_ks nb neg ni pt nf nt) pt nf = true := by
  have hm : own_many off nb (ni - 1) = true := own_all off nb (ni - 1) h1 h2 (by omega)
  unfold own_many at hm
  have q1 := List.all_eq_true.mp hm neg (by cases neg <;> simp)
  have q2 := List.all_eq_true.mp q1 pt (by cases pt <;> simp)
  have q3 := List.all_eq_true.mp q2 (nf - 1) (List.mem_range.mpr (by omega))
  have q4 := List.all_eq_true.mp q3 nt (List.mem_range.mpr h5)
  rw [show ni - 1 + 1 = ni by omega, show nf - 1 + 1 = nf by omega] at q4
  exact q4
theorem own_c0 {fs : List (Nat × Nat)} {c : Int32 → Int32} (hl : fs.length = 1) (B : own_Bd 1 fs (fun _ => 0) c) : f24 (0 : Int32) c = Int32.ofNat (fs.getD 0 (0, 0)).1 ∧ f25 (0 : Int32) c = Int32.ofNat (fs.getD 0 (0, 0)).2 := by
  have b := B 0 (by decide)
  rw [if_pos (by omega), if_pos (by omega)] at b
  exact b
theorem own_fill {bg : Int32} (hbg : bg = 46 ∨ bg = 51) {fb : Int32 → Int32} (hfb : fb = (fun i => if i = (21 : Int32) then nar .byte bg else (fun i => if i = (20 : Int32) then nar .byte bg else (fun i => if i = (19 : Int32) then nar .byte bg else (fun i => if i = (18 : Int32) then nar .byte bg else (fun i => if i = (17 : Int32) then nar .byte bg else (fun i => if i = (16 : Int32) then nar .byte bg else (fun i => if i = (15 : Int32) then nar .byte bg else (fun i => if i = (14 : Int32) then nar .byte bg else (fun i => if i = (13 : Int32) then nar .byte bg else (fun i => if i = (12 : Int32) then nar .byte bg else (fun i => if i = (11 : Int32) then nar .byte bg else (fun i => if i = (10 : Int32) then nar .byte bg else (fun i => if i = (9 : Int32) then nar .byte bg else (fun i => if i = (8 : Int32) then nar .byte bg else (fun i => if i = (7 : Int32) then nar .byte bg else (fun i => if i = (6 : Int32) then nar .byte bg else (fun i => if i = (5 : Int32) then nar .byte bg else (fun i => if i = (4 : Int32) then nar .byte bg else (fun i => if i = (3 : Int32) then nar .byte bg else (fun i => if i = (2 : Int32) then nar .byte bg else (fun i => if i = (1 : Int32) then nar .byte bg else (fun i => if i = (0 : Int32) then nar .byte bg else (fun _ => 0) i) i) i) i) i) i) i) i) i) i) i) i) i) i) i) i) i) i) i) i) i) i)) (i : Nat) (hi : i < 4) : own_kn (fb (Int32.ofNat i)) = 1 ∨ own_kn (fb (Int32.ofNat i)) = 2 := by
  subst hfb
  rcases hbg with rfl | rfl <;> rcases (by omega : i = 0 ∨ i = 1 ∨ i = 2 ∨ i = 3) with rfl | rfl | rfl | rfl <;> decide +kernel
theorem ef_2 (m : MethodId) (r0 : Addr) (y1 : Int32) (p2 : Int32) (p3 : Int32) : entryFrame m #[(.ref r0), (.int y1), (.int p2), (.int p3)] 4 = mkF m 0 #[.val (.ref r0), .val (.int y1), .val (.int p2), .val (.int p3)] [] := by first | (simp [entryFrame, mkF, argsToLocals, Value.category]; done) | rfl
theorem d2_0 : decode method_3_code 0 = .ok (.iload_n 2, 1) := by decide +kernel
theorem d2_1 : decode method_3_code 1 = .ok (.ifCond .eq 11, 3) := by decide +kernel
theorem d2_12 : decode method_3_code 12 = .ok (.iload_n 1, 1) := by decide +kernel
theorem d2_13 : decode method_3_code 13 = .ok (.ireturn, 1) := by decide +kernel
theorem d2_4 : decode method_3_code 4 = .ok (.aload_n 0, 1) := by decide +kernel
theorem d2_5 : decode method_3_code 5 = .ok (.iload_n 1, 1) := by decide +kernel
theorem d2_6 : decode method_3_code 6 = .ok (.iload_n 3, 1) := by decide +kernel
theorem d2_7 : decode method_3_code 7 = .ok (.bastore, 1) := by decide +kernel
theorem d2_8 : decode method_3_code 8 = .ok (.iload_n 1, 1) := by decide +kernel
theorem d2_9 : decode method_3_code 9 = .ok (.iconst 1, 1) := by decide +kernel
theorem d2_10 : decode method_3_code 10 = .ok (.iadd, 1) := by decide +kernel
theorem d2_11 : decode method_3_code 11 = .ok (.ireturn, 1) := by decide +kernel
set_option maxRecDepth 65536 in
set_option maxHeartbeats 40000000 in
theorem rm2 (l : Launch) (Z : State) (a0 : Array Value) (hw : ∀ d ∈ tables_1, d.before a0 Z = true) (r0 : Addr) (p2 : Int32) (p3 : Int32) (off : Nat) (ks : List Nat) (fb : Int32 → Int32) (wf : Bool) (kd : Nat) (h0 : Heap) (n0 : Nat) (V0 : own_Arr Z h0 r0 .byte (22 : Int32) fb) (g0 : n0 ≤ r0) (hk : off + ks.length < 22) (hI : own_Inv off fb ks) (hfl : p2 = (if wf = true then 1 else 0)) (hkd : own_kn (nar .byte p3) = kd) (hk3 : kd < 3) :
    own_Met l Z n0 (⟨"com/example/indexloom/indexloom/data/DataLineScalePinLaw", "put", "([BIZB)I"⟩ : MethodName) method_3_code 4 (some .int) ({ frames := 0, cells := 0, slots := 0, locals := 0 } : Room) #[(.ref r0), (.int (Int32.ofNat (off + ks.length))), (.int p2), (.int p3)] h0 (fun v h => Keep h0 h [r0] ∧ ∃ fb', v = some (.int (Int32.ofNat (off + (own_app ks wf kd).length))) ∧ own_Arr Z h r0 .byte (22 : Int32) fb' ∧ own_Inv off fb' (own_app ks wf kd)) := by
  refine own_met (plainFor_of_name pn_1) ?_
  intro p e s m below meth c T0 hx hby hml hown hnm hret hlk hZ A0
  rw [ef_2]
  show own_Go _ _ _ _ (T0.setTop (mkF m 0 #[.val (.ref r0), .val (.int (Int32.ofNat (off + ks.length))), .val (.int p2), .val (.int p3)] []))
  refine own_go (fun t_ k_ => XS.iloadN A0.here hx rfl (hb hby d2_0) rfl k_) ?_
  show own_Go _ _ _ _ (T0.setTop (mkF m 1 #[.val (.ref r0), .val (.int (Int32.ofNat (off + ks.length))), .val (.int p2), .val (.int p3)] [(.int p2)]))
  by_cases hc1 : p2 = (0 : Int32)
  ·
    refine own_go (fun t_ k_ => XS.ifYes A0.here hx rfl (pc0 := 1) (pc' := 12) rfl (hb hby d2_1) rfl ((if0 _ _).trans (teq hc1).1) (by decide) (by decide) k_) ?_
    show own_Go _ _ _ _ (T0.setTop (mkF m 12 #[.val (.ref r0), .val (.int (Int32.ofNat (off + ks.length))), .val (.int p2), .val (.int p3)] []))
    refine own_go (fun t_ k_ => XS.iloadN A0.here hx rfl (hb hby d2_12) rfl k_) ?_
    show own_Go _ _ _ _ (T0.setTop (mkF m 13 #[.val (.ref r0), .val (.int (Int32.ofNat (off + ks.length))), .val (.int p2), .val (.int p3)] [(.int (Int32.ofNat (off + ks.length)))]))
    refine own_retI A0 hx hret hlk (by decide) (by decide) (hb hby d2_13) ?_
    have ef := own_ff hfl hc1
    subst ef
    exact ⟨(Keep.refl h0 [r0]), fb, rfl, V0, hI⟩
  ·
    refine own_go (fun t_ k_ => XS.ifNo A0.here hx rfl (hb hby d2_1) rfl ((if0 _ _).trans (feq hc1).1) k_) ?_
    show own_Go _ _ _ _ (T0.setTop (mkF m 4 #[.val (.ref r0), .val (.int (Int32.ofNat (off + ks.length))), .val (.int p2), .val (.int p3)] []))
    refine own_go (fun t_ k_ => XS.aloadN A0.here hx rfl (hb hby d2_4) rfl rfl k_) ?_
    show own_Go _ _ _ _ (T0.setTop (mkF m 5 #[.val (.ref r0), .val (.int (Int32.ofNat (off + ks.length))), .val (.int p2), .val (.int p3)] [(.ref r0)]))
    refine own_go (fun t_ k_ => XS.iloadN A0.here hx rfl (hb hby d2_5) rfl k_) ?_
    show own_Go _ _ _ _ (T0.setTop (mkF m 6 #[.val (.ref r0), .val (.int (Int32.ofNat (off + ks.length))), .val (.int p2), .val (.int p3)] [(.int (Int32.ofNat (off + ks.length))), (.ref r0)]))
    refine own_go (fun t_ k_ => XS.iloadN A0.here hx rfl (hb hby d2_6) rfl k_) ?_
    show own_Go _ _ _ _ (T0.setTop (mkF m 7 #[.val (.ref r0), .val (.int (Int32.ofNat (off + ks.length))), .val (.int p2), .val (.int p3)] [(.int p3), (.int (Int32.ofNat (off + ks.length))), (.ref r0)]))
    refine own_stB A0 hx hZ V0 ⟨own_nn (by omega), (own_nlt (j := 22) (by omega) (by decide)).mpr hk⟩ g0 rfl rfl (hb hby d2_7) (fun T2 h4 A3 W5 V6 => ?_)
    have V7 : own_Arr Z h4 r0 .byte (22 : Int32) (fun i => if i = (Int32.ofNat (off + ks.length)) then nar .byte p3 else fb i) := V6
    have K8 : Keep h0 h4 [r0] := (Keep.refl h0 [r0]).wr W5 (Or.inl (List.mem_of_getElem? (i := 0) rfl))
    show own_Go _ _ _ _ (T2.setTop (mkF m 8 #[.val (.ref r0), .val (.int (Int32.ofNat (off + ks.length))), .val (.int p2), .val (.int p3)] []))
    refine own_go (fun t_ k_ => XS.iloadN A3.here hx rfl (hb hby d2_8) rfl k_) ?_
    show own_Go _ _ _ _ (T2.setTop (mkF m 9 #[.val (.ref r0), .val (.int (Int32.ofNat (off + ks.length))), .val (.int p2), .val (.int p3)] [(.int (Int32.ofNat (off + ks.length)))]))
    refine own_go (fun t_ k_ => XS.iconst A3.here hx rfl (hb hby d2_9) k_) ?_
    show own_Go _ _ _ _ (T2.setTop (mkF m 10 #[.val (.ref r0), .val (.int (Int32.ofNat (off + ks.length))), .val (.int p2), .val (.int p3)] [(.int (1 : Int32)), (.int (Int32.ofNat (off + ks.length)))]))
    refine own_go (fun t_ k_ => XS.iadd A3.here hx rfl (hb hby d2_10) rfl k_) ?_
    show own_Go _ _ _ _ (T2.setTop (mkF m 11 #[.val (.ref r0), .val (.int (Int32.ofNat (off + ks.length))), .val (.int p2), .val (.int p3)] [(.int ((Int32.ofNat (off + ks.length)) + (1 : Int32)))]))
    refine own_retI A3 hx hret hlk (by decide) (by decide) (hb hby d2_11) ?_
    have ef := own_ft hfl hc1
    subst ef
    refine ⟨K8, _, ?_, V7, hI.put hk hkd hk3⟩
    rw [own_succ, own_app, if_pos rfl, List.length_append, List.length_singleton, Nat.add_assoc]
theorem d23_15 : decode prog_14_method_10_code 15 = .ok (.iload 4, 2) := by decide +kernel
theorem d23_17 : decode prog_14_method_10_code 17 = .ok (.iload_n 2, 1) := by decide +kernel
theorem d23_18 : decode prog_14_method_10_code 18 = .ok (.if_icmp .le 23, 3) := by decide +kernel
theorem d23_41 : decode prog_14_method_10_code 41 = .ok (.iload 4, 2) := by decide +kernel
theorem d23_43 : decode prog_14_method_10_code 43 = .ok (.iload_n 2, 1) := by decide +kernel
theorem d23_44 : decode prog_14_method_10_code 44 = .ok (.if_icmp .ne 7, 3) := by decide +kernel
theorem d23_47 : decode prog_14_method_10_code 47 = .ok (.iconst 0, 1) := by decide +kernel
theorem d23_48 : decode prog_14_method_10_code 48 = .ok (.goto 7, 3) := by decide +kernel
theorem d23_55 : decode prog_14_method_10_code 55 = .ok (.ireturn, 1) := by decide +kernel
theorem d23_21 : decode prog_14_method_10_code 21 = .ok (.aload_n 0, 1) := by decide +kernel
theorem d23_22 : decode prog_14_method_10_code 22 = .ok (.getfield 37, 3) := by decide +kernel
theorem d23_25 : decode prog_14_method_10_code 25 = .ok (.iload 4, 2) := by decide +kernel
theorem d23_27 : decode prog_14_method_10_code 27 = .ok (.iconst 1, 1) := by decide +kernel
theorem d23_28 : decode prog_14_method_10_code 28 = .ok (.isub, 1) := by decide +kernel
theorem d23_29 : decode prog_14_method_10_code 29 = .ok (.baload, 1) := by decide +kernel
theorem d23_30 : decode prog_14_method_10_code 30 = .ok (.bipush 46, 2) := by decide +kernel
theorem d23_32 : decode prog_14_method_10_code 32 = .ok (.if_icmp .eq 9, 3) := by decide +kernel
theorem d23_51 : decode prog_14_method_10_code 51 = .ok (.iload_n 3, 1) := by decide +kernel
theorem d23_52 : decode prog_14_method_10_code 52 = .ok (.iload 4, 2) := by decide +kernel
theorem d23_54 : decode prog_14_method_10_code 54 = .ok (.isub, 1) := by decide +kernel
theorem d23_35 : decode prog_14_method_10_code 35 = .ok (.iinc 4 (-1), 3) := by decide +kernel
theorem d23_38 : decode prog_14_method_10_code 38 = .ok (.goto (-23), 3) := by decide +kernel
set_option maxRecDepth 65536 in
set_option maxHeartbeats 40000000 in
theorem own_lpS {p : Program} {l : Launch} {e : Env} {s : State} {m : MethodId} {args : Array Value} {below : List Frame} {meth : Method} {c : Code} {Z : State} {a0 : Array Value} {n0 : Nat} (hx : p.tables.exec = Jvm.exec) (hby : c.code = prog_14_method_10_code) (hml : c.maxLocals = 5) (hown : s.vm.findClass "com/example/indexloom/indexloom/data/DataLine" = some m.cls) (hret : meth.sig.returnType = some .int) (hlk : meth.locks = false) (hZ : Z.Warmed39 s.vm) (hw : ∀ d ∈ tables_1, d.before a0 Z = true) (r0 t0 r2 : Addr) (c_ fb : Int32 → Int32) (h0 : Heap) (E0 : Exa Z h0 r0 "com/example/indexloom/indexloom/data/DataLine") (Fb : Fld Z h0 r0 "com/example/indexloom/indexloom/data/DataLine" "bounds" "[I" (.ref t0)) (Vb : own_Arr Z h0 t0 .int (2 : Int32) c_) (Fy : Fld Z h0 r0 "com/example/indexloom/indexloom/data/DataLine" "bytes" "[B" (.ref r2)) (Vy : own_Arr Z h0 r2 .byte (22 : Int32) fb) (sn en : Nat) (hen : en ≤ 22) (dot : Nat → Bool) (hdot : ∀ i, sn ≤ i → i < en → (fb (Int32.ofNat i) = 46 ↔ dot i = true)) : ∀ (i : Nat) (T0 : State) (A0 : own_At p l e ({ frames := 1, cells := 0, slots := 0, locals := 14 } : Room) s m args below meth c n0 T0 h0 0 0) (hi : i ≤ en) (hs : sn ≤ i),
    own_Go p.tables e below (own_End n0 s 0 0 (fun v h => v = some (.int (own_res dot sn en i)) ∧ h0 = h)) (T0.setTop (mkF m 15 #[.val (.ref r0), .val (.int (0 : Int32)), .val (.int (Int32.ofNat sn)), .val (.int (Int32.ofNat en)), .val (.int (Int32.ofNat i))] [])) := by
  intro i
  induction i with
  | zero =>
    intro T0 A0 hi hs
    show own_Go _ _ _ _ (T0.setTop (mkF m 15 #[.val (.ref r0), .val (.int (0 : Int32)), .val (.int (Int32.ofNat sn)), .val (.int (Int32.ofNat en)), .val (.int (Int32.ofNat 0))] []))
    have hge : ¬ Int32.ofNat sn < Int32.ofNat 0 := fun z => by have := (own_nlt (by omega) (by omega)).mp z; omega
    have h00 : sn = 0 := by omega
    refine own_go (fun t_ k_ => XS.iload A0.here hx rfl (hb hby d23_15) rfl k_) ?_
    show own_Go _ _ _ _ (T0.setTop (mkF m 17 #[.val (.ref r0), .val (.int (0 : Int32)), .val (.int (Int32.ofNat sn)), .val (.int (Int32.ofNat en)), .val (.int (Int32.ofNat 0))] [(.int (Int32.ofNat 0))]))
    refine own_go (fun t_ k_ => XS.iloadN A0.here hx rfl (hb hby d23_17) rfl k_) ?_
    show own_Go _ _ _ _ (T0.setTop (mkF m 18 #[.val (.ref r0), .val (.int (0 : Int32)), .val (.int (Int32.ofNat sn)), .val (.int (Int32.ofNat en)), .val (.int (Int32.ofNat 0))] [(.int (Int32.ofNat sn)), (.int (Int32.ofNat 0))]))
    have hc1 : ¬ ((Int32.ofNat sn) < (Int32.ofNat 0)) := hge
    refine own_go (fun t_ k_ => XS.icmpYes A0.here hx rfl (pc0 := 18) (pc' := 41) rfl (hb hby d23_18) rfl (flt hc1).2.2.2 (by decide) (by decide) k_) ?_
    show own_Go _ _ _ _ (T0.setTop (mkF m 41 #[.val (.ref r0), .val (.int (0 : Int32)), .val (.int (Int32.ofNat sn)), .val (.int (Int32.ofNat en)), .val (.int (Int32.ofNat 0))] []))
    refine own_go (fun t_ k_ => XS.iload A0.here hx rfl (hb hby d23_41) rfl k_) ?_
    show own_Go _ _ _ _ (T0.setTop (mkF m 43 #[.val (.ref r0), .val (.int (0 : Int32)), .val (.int (Int32.ofNat sn)), .val (.int (Int32.ofNat en)), .val (.int (Int32.ofNat 0))] [(.int (Int32.ofNat 0))]))
    refine own_go (fun t_ k_ => XS.iloadN A0.here hx rfl (hb hby d23_43) rfl k_) ?_
    show own_Go _ _ _ _ (T0.setTop (mkF m 44 #[.val (.ref r0), .val (.int (0 : Int32)), .val (.int (Int32.ofNat sn)), .val (.int (Int32.ofNat en)), .val (.int (Int32.ofNat 0))] [(.int (Int32.ofNat sn)), (.int (Int32.ofNat 0))]))
    have hc2 : (Int32.ofNat 0) = (Int32.ofNat sn) := by rw [h00]
    refine own_go (fun t_ k_ => XS.icmpNo A0.here hx rfl (hb hby d23_44) rfl (teq hc2).2 k_) ?_
    show own_Go _ _ _ _ (T0.setTop (mkF m 47 #[.val (.ref r0), .val (.int (0 : Int32)), .val (.int (Int32.ofNat sn)), .val (.int (Int32.ofNat en)), .val (.int (Int32.ofNat 0))] []))
    refine own_go (fun t_ k_ => XS.iconst A0.here hx rfl (hb hby d23_47) k_) ?_
    show own_Go _ _ _ _ (T0.setTop (mkF m 48 #[.val (.ref r0), .val (.int (0 : Int32)), .val (.int (Int32.ofNat sn)), .val (.int (Int32.ofNat en)), .val (.int (Int32.ofNat 0))] [(.int (0 : Int32))]))
    refine own_go (fun t_ k_ => XS.goto A0.here hx rfl (pc0 := 48) (pc' := 55) rfl (hb hby d23_48) (by decide) (by decide) k_) ?_
    show own_Go _ _ _ _ (T0.setTop (mkF m 55 #[.val (.ref r0), .val (.int (0 : Int32)), .val (.int (Int32.ofNat sn)), .val (.int (Int32.ofNat en)), .val (.int (Int32.ofNat 0))] [(.int (0 : Int32))]))
    refine own_retI A0 hx hret hlk (by decide) (by decide) (hb hby d23_55) ?_
    exact ⟨congrArg (fun z => some (Value.int z)) (own_res_end dot sn en 0 (by omega) hs), rfl⟩
  | succ i ih =>
    intro T0 A0 hi hs
    show own_Go _ _ _ _ (T0.setTop (mkF m 15 #[.val (.ref r0), .val (.int (0 : Int32)), .val (.int (Int32.ofNat sn)), .val (.int (Int32.ofNat en)), .val (.int (Int32.ofNat (i + 1)))] []))
    refine own_go (fun t_ k_ => XS.iload A0.here hx rfl (hb hby d23_15) rfl k_) ?_
    show own_Go _ _ _ _ (T0.setTop (mkF m 17 #[.val (.ref r0), .val (.int (0 : Int32)), .val (.int (Int32.ofNat sn)), .val (.int (Int32.ofNat en)), .val (.int (Int32.ofNat (i + 1)))] [(.int (Int32.ofNat (i + 1)))]))
    refine own_go (fun t_ k_ => XS.iloadN A0.here hx rfl (hb hby d23_17) rfl k_) ?_
    show own_Go _ _ _ _ (T0.setTop (mkF m 18 #[.val (.ref r0), .val (.int (0 : Int32)), .val (.int (Int32.ofNat sn)), .val (.int (Int32.ofNat en)), .val (.int (Int32.ofNat (i + 1)))] [(.int (Int32.ofNat sn)), (.int (Int32.ofNat (i + 1)))]))
    by_cases hc3 : (Int32.ofNat sn) < (Int32.ofNat (i + 1))
    ·
      refine own_go (fun t_ k_ => XS.icmpNo A0.here hx rfl (hb hby d23_18) rfl (tlt hc3).2.2.2 k_) ?_
      show own_Go _ _ _ _ (T0.setTop (mkF m 21 #[.val (.ref r0), .val (.int (0 : Int32)), .val (.int (Int32.ofNat sn)), .val (.int (Int32.ofNat en)), .val (.int (Int32.ofNat (i + 1)))] []))
      refine own_go (fun t_ k_ => XS.aloadN A0.here hx rfl (hb hby d23_21) rfl rfl k_) ?_
      show own_Go _ _ _ _ (T0.setTop (mkF m 22 #[.val (.ref r0), .val (.int (0 : Int32)), .val (.int (Int32.ofNat sn)), .val (.int (Int32.ofNat en)), .val (.int (Int32.ofNat (i + 1)))] [(.ref r0)]))
      refine own_getF A0 hx hZ hown (host := "") (Or.inl (hw _ (List.mem_of_getElem? (i := 135) rfl))) Via.refl Fy rfl rfl (hb hby d23_22) (fun T4 A5 => ?_)
      show own_Go _ _ _ _ (T4.setTop (mkF m 25 #[.val (.ref r0), .val (.int (0 : Int32)), .val (.int (Int32.ofNat sn)), .val (.int (Int32.ofNat en)), .val (.int (Int32.ofNat (i + 1)))] [(.ref r2)]))
      refine own_go (fun t_ k_ => XS.iload A5.here hx rfl (hb hby d23_25) rfl k_) ?_
      show own_Go _ _ _ _ (T4.setTop (mkF m 27 #[.val (.ref r0), .val (.int (0 : Int32)), .val (.int (Int32.ofNat sn)), .val (.int (Int32.ofNat en)), .val (.int (Int32.ofNat (i + 1)))] [(.int (Int32.ofNat (i + 1))), (.ref r2)]))
      refine own_go (fun t_ k_ => XS.iconst A5.here hx rfl (hb hby d23_27) k_) ?_
      show own_Go _ _ _ _ (T4.setTop (mkF m 28 #[.val (.ref r0), .val (.int (0 : Int32)), .val (.int (Int32.ofNat sn)), .val (.int (Int32.ofNat en)), .val (.int (Int32.ofNat (i + 1)))] [(.int (1 : Int32)), (.int (Int32.ofNat (i + 1))), (.ref r2)]))
      refine own_go (fun t_ k_ => XS.isub A5.here hx rfl (hb hby d23_28) rfl k_) ?_
      show own_Go _ _ _ _ (T4.setTop (mkF m 29 #[.val (.ref r0), .val (.int (0 : Int32)), .val (.int (Int32.ofNat sn)), .val (.int (Int32.ofNat en)), .val (.int (Int32.ofNat (i + 1)))] [(.int ((Int32.ofNat (i + 1)) - (1 : Int32))), (.ref r2)]))
      rw [own_sub1]
      show own_Go _ _ _ _ (T4.setTop (mkF m 29 #[.val (.ref r0), .val (.int (0 : Int32)), .val (.int (Int32.ofNat sn)), .val (.int (Int32.ofNat en)), .val (.int (Int32.ofNat (i + 1)))] [(.int (Int32.ofNat i)), (.ref r2)]))
      refine own_ldB A5 hx hZ Vy ⟨own_nn (by omega), (own_nlt (j := 22) (by omega) (by decide)).mpr (by omega)⟩ rfl rfl (hb hby d23_29) ?_
      show own_Go _ _ _ _ (T4.setTop (mkF m 30 #[.val (.ref r0), .val (.int (0 : Int32)), .val (.int (Int32.ofNat sn)), .val (.int (Int32.ofNat en)), .val (.int (Int32.ofNat (i + 1)))] [(.int (fb (Int32.ofNat i)))]))
      refine own_go (fun t_ k_ => XS.bipush A5.here hx rfl (hb hby d23_30) k_) ?_
      show own_Go _ _ _ _ (T4.setTop (mkF m 32 #[.val (.ref r0), .val (.int (0 : Int32)), .val (.int (Int32.ofNat sn)), .val (.int (Int32.ofNat en)), .val (.int (Int32.ofNat (i + 1)))] [(.int (46 : Int32)), (.int (fb (Int32.ofNat i)))]))
      by_cases hc6 : (fb (Int32.ofNat i)) = (46 : Int32)
      ·
        refine own_go (fun t_ k_ => XS.icmpYes A5.here hx rfl (pc0 := 32) (pc' := 41) rfl (hb hby d23_32) rfl (teq hc6).1 (by decide) (by decide) k_) ?_
        show own_Go _ _ _ _ (T4.setTop (mkF m 41 #[.val (.ref r0), .val (.int (0 : Int32)), .val (.int (Int32.ofNat sn)), .val (.int (Int32.ofNat en)), .val (.int (Int32.ofNat (i + 1)))] []))
        refine own_go (fun t_ k_ => XS.iload A5.here hx rfl (hb hby d23_41) rfl k_) ?_
        show own_Go _ _ _ _ (T4.setTop (mkF m 43 #[.val (.ref r0), .val (.int (0 : Int32)), .val (.int (Int32.ofNat sn)), .val (.int (Int32.ofNat en)), .val (.int (Int32.ofNat (i + 1)))] [(.int (Int32.ofNat (i + 1)))]))
        refine own_go (fun t_ k_ => XS.iloadN A5.here hx rfl (hb hby d23_43) rfl k_) ?_
        show own_Go _ _ _ _ (T4.setTop (mkF m 44 #[.val (.ref r0), .val (.int (0 : Int32)), .val (.int (Int32.ofNat sn)), .val (.int (Int32.ofNat en)), .val (.int (Int32.ofNat (i + 1)))] [(.int (Int32.ofNat sn)), (.int (Int32.ofNat (i + 1)))]))
        have hc7 : ¬ ((Int32.ofNat (i + 1)) = (Int32.ofNat sn)) := (fun z => by have q := (own_nlt (by omega) (by omega)).mp hc3; have := (own_neq (by omega) (by omega)).mp z; omega)
        refine own_go (fun t_ k_ => XS.icmpYes A5.here hx rfl (pc0 := 44) (pc' := 51) rfl (hb hby d23_44) rfl (feq hc7).2 (by decide) (by decide) k_) ?_
        show own_Go _ _ _ _ (T4.setTop (mkF m 51 #[.val (.ref r0), .val (.int (0 : Int32)), .val (.int (Int32.ofNat sn)), .val (.int (Int32.ofNat en)), .val (.int (Int32.ofNat (i + 1)))] []))
        refine own_go (fun t_ k_ => XS.iloadN A5.here hx rfl (hb hby d23_51) rfl k_) ?_
        show own_Go _ _ _ _ (T4.setTop (mkF m 52 #[.val (.ref r0), .val (.int (0 : Int32)), .val (.int (Int32.ofNat sn)), .val (.int (Int32.ofNat en)), .val (.int (Int32.ofNat (i + 1)))] [(.int (Int32.ofNat en))]))
        refine own_go (fun t_ k_ => XS.iload A5.here hx rfl (hb hby d23_52) rfl k_) ?_
        show own_Go _ _ _ _ (T4.setTop (mkF m 54 #[.val (.ref r0), .val (.int (0 : Int32)), .val (.int (Int32.ofNat sn)), .val (.int (Int32.ofNat en)), .val (.int (Int32.ofNat (i + 1)))] [(.int (Int32.ofNat (i + 1))), (.int (Int32.ofNat en))]))
        refine own_go (fun t_ k_ => XS.isub A5.here hx rfl (hb hby d23_54) rfl k_) ?_
        show own_Go _ _ _ _ (T4.setTop (mkF m 55 #[.val (.ref r0), .val (.int (0 : Int32)), .val (.int (Int32.ofNat sn)), .val (.int (Int32.ofNat en)), .val (.int (Int32.ofNat (i + 1)))] [(.int ((Int32.ofNat en) - (Int32.ofNat (i + 1))))]))
        refine own_retI A5 hx hret hlk (by decide) (by decide) (hb hby d23_55) ?_
        exact ⟨congrArg (fun z => some (Value.int z)) (own_res_dot dot sn en i hi ((own_nlt (by omega) (by omega)).mp hc3) ((hdot i (Nat.le_of_lt_succ ((own_nlt (by omega) (by omega)).mp hc3)) (by omega)).mp hc6)), rfl⟩
      ·
        refine own_go (fun t_ k_ => XS.icmpNo A5.here hx rfl (hb hby d23_32) rfl (feq hc6).1 k_) ?_
        show own_Go _ _ _ _ (T4.setTop (mkF m 35 #[.val (.ref r0), .val (.int (0 : Int32)), .val (.int (Int32.ofNat sn)), .val (.int (Int32.ofNat en)), .val (.int (Int32.ofNat (i + 1)))] []))
        refine own_go (fun t_ k_ => XS.iinc A5.here hx rfl (hb hby d23_35) rfl (l' := #[.val (.ref r0), .val (.int (0 : Int32)), .val (.int (Int32.ofNat sn)), .val (.int (Int32.ofNat en)), .val (.int ((Int32.ofNat (i + 1)) + (-1 : Int32)))]) rfl k_) ?_
        show own_Go _ _ _ _ (T4.setTop (mkF m 38 #[.val (.ref r0), .val (.int (0 : Int32)), .val (.int (Int32.ofNat sn)), .val (.int (Int32.ofNat en)), .val (.int ((Int32.ofNat (i + 1)) + (-1 : Int32)))] []))
        refine own_go (fun t_ k_ => XS.goto A5.here hx rfl (pc0 := 38) (pc' := 15) rfl (hb hby d23_38) (by decide) (by decide) k_) ?_
        show own_Go _ _ _ _ (T4.setTop (mkF m 15 #[.val (.ref r0), .val (.int (0 : Int32)), .val (.int (Int32.ofNat sn)), .val (.int (Int32.ofNat en)), .val (.int ((Int32.ofNat (i + 1)) + (-1 : Int32)))] []))
        rw [own_res_next dot sn en i ((own_nlt (by omega) (by omega)).mp hc3) (fun z => hc6 ((hdot i (Nat.le_of_lt_succ ((own_nlt (by omega) (by omega)).mp hc3)) (by omega)).mpr z))]
        rw [own_prd]
        exact ih _ A5 (by omega) (by have := (own_nlt (by omega) (by omega)).mp hc3; omega)
    ·
      refine own_go (fun t_ k_ => XS.icmpYes A0.here hx rfl (pc0 := 18) (pc' := 41) rfl (hb hby d23_18) rfl (flt hc3).2.2.2 (by decide) (by decide) k_) ?_
      show own_Go _ _ _ _ (T0.setTop (mkF m 41 #[.val (.ref r0), .val (.int (0 : Int32)), .val (.int (Int32.ofNat sn)), .val (.int (Int32.ofNat en)), .val (.int (Int32.ofNat (i + 1)))] []))
      refine own_go (fun t_ k_ => XS.iload A0.here hx rfl (hb hby d23_41) rfl k_) ?_
      show own_Go _ _ _ _ (T0.setTop (mkF m 43 #[.val (.ref r0), .val (.int (0 : Int32)), .val (.int (Int32.ofNat sn)), .val (.int (Int32.ofNat en)), .val (.int (Int32.ofNat (i + 1)))] [(.int (Int32.ofNat (i + 1)))]))
      refine own_go (fun t_ k_ => XS.iloadN A0.here hx rfl (hb hby d23_43) rfl k_) ?_
      show own_Go _ _ _ _ (T0.setTop (mkF m 44 #[.val (.ref r0), .val (.int (0 : Int32)), .val (.int (Int32.ofNat sn)), .val (.int (Int32.ofNat en)), .val (.int (Int32.ofNat (i + 1)))] [(.int (Int32.ofNat sn)), (.int (Int32.ofNat (i + 1)))]))
      have hc8 : (Int32.ofNat (i + 1)) = (Int32.ofNat sn) := (by rw [show sn = i + 1 by have := own_nge (by omega) (by omega) hc3; omega])
      refine own_go (fun t_ k_ => XS.icmpNo A0.here hx rfl (hb hby d23_44) rfl (teq hc8).2 k_) ?_
      show own_Go _ _ _ _ (T0.setTop (mkF m 47 #[.val (.ref r0), .val (.int (0 : Int32)), .val (.int (Int32.ofNat sn)), .val (.int (Int32.ofNat en)), .val (.int (Int32.ofNat (i + 1)))] []))
      refine own_go (fun t_ k_ => XS.iconst A0.here hx rfl (hb hby d23_47) k_) ?_
      show own_Go _ _ _ _ (T0.setTop (mkF m 48 #[.val (.ref r0), .val (.int (0 : Int32)), .val (.int (Int32.ofNat sn)), .val (.int (Int32.ofNat en)), .val (.int (Int32.ofNat (i + 1)))] [(.int (0 : Int32))]))
      refine own_go (fun t_ k_ => XS.goto A0.here hx rfl (pc0 := 48) (pc' := 55) rfl (hb hby d23_48) (by decide) (by decide) k_) ?_
      show own_Go _ _ _ _ (T0.setTop (mkF m 55 #[.val (.ref r0), .val (.int (0 : Int32)), .val (.int (Int32.ofNat sn)), .val (.int (Int32.ofNat en)), .val (.int (Int32.ofNat (i + 1)))] [(.int (0 : Int32))]))
      refine own_retI A0 hx hret hlk (by decide) (by decide) (hb hby d23_55) ?_
      exact ⟨congrArg (fun z => some (Value.int z)) (own_res_end dot sn en (i + 1) (by have := own_nge (by omega) (by omega) hc3; omega) hs), rfl⟩
theorem ef_23 (m : MethodId) (r0 : Addr) (y1 : Int32) : entryFrame m #[(.ref r0), (.int y1)] 5 = mkF m 0 #[.val (.ref r0), .val (.int y1), .unset, .unset, .unset] [] := by first | (simp [entryFrame, mkF, argsToLocals, Value.category]; done) | rfl
theorem d23_0 : decode prog_14_method_10_code 0 = .ok (.aload_n 0, 1) := by decide +kernel
theorem d23_1 : decode prog_14_method_10_code 1 = .ok (.iload_n 1, 1) := by decide +kernel
theorem d23_2 : decode prog_14_method_10_code 2 = .ok (.invokevirtual 41, 3) := by decide +kernel
theorem pd__I_I : parseMethodDescriptor "(I)I" = some ⟨[.int], some .int⟩ := by decide +kernel
theorem d23_5 : decode prog_14_method_10_code 5 = .ok (.istore_n 2, 1) := by decide +kernel
theorem d23_6 : decode prog_14_method_10_code 6 = .ok (.aload_n 0, 1) := by decide +kernel
theorem d23_7 : decode prog_14_method_10_code 7 = .ok (.iload_n 1, 1) := by decide +kernel
theorem d23_8 : decode prog_14_method_10_code 8 = .ok (.invokevirtual 45, 3) := by decide +kernel
theorem d23_11 : decode prog_14_method_10_code 11 = .ok (.istore_n 3, 1) := by decide +kernel
theorem d23_12 : decode prog_14_method_10_code 12 = .ok (.iload_n 3, 1) := by decide +kernel
theorem d23_13 : decode prog_14_method_10_code 13 = .ok (.istore 4, 2) := by decide +kernel
set_option maxRecDepth 65536 in
set_option maxHeartbeats 40000000 in
theorem rm23 (l : Launch) (Z : State) (a0 : Array Value) (hw : ∀ d ∈ tables_1, d.before a0 Z = true) (n0 : Nat) (r0 t0 r2 : Addr) (c_ fb : Int32 → Int32) (h0 : Heap) (E0 : Exa Z h0 r0 "com/example/indexloom/indexloom/data/DataLine") (Fb : Fld Z h0 r0 "com/example/indexloom/indexloom/data/DataLine" "bounds" "[I" (.ref t0)) (Vb : own_Arr Z h0 t0 .int (2 : Int32) c_) (Fy : Fld Z h0 r0 "com/example/indexloom/indexloom/data/DataLine" "bytes" "[B" (.ref r2)) (Vy : own_Arr Z h0 r2 .byte (22 : Int32) fb) (sn en : Nat) (hen : en ≤ 22) (dot : Nat → Bool) (hdot : ∀ i, sn ≤ i → i < en → (fb (Int32.ofNat i) = 46 ↔ dot i = true)) (hse : sn ≤ en) (hc0 : f24 (0 : Int32) c_ = Int32.ofNat sn) (hc1 : f25 (0 : Int32) c_ = Int32.ofNat en) :
    own_Met l Z n0 (⟨"com/example/indexloom/indexloom/data/DataLine", "scale", "(I)I"⟩ : MethodName) prog_14_method_10_code 5 (some .int) ({ frames := 1, cells := 0, slots := 0, locals := 14 } : Room) #[.ref r0, .int (0 : Int32)] h0 (fun v h => v = some (.int (own_res dot sn en en)) ∧ h0 = h) := by
  refine own_met (plainFor_of_name pn_20) ?_
  intro p e s m below meth c T0 hx hby hml hown hnm hret hlk hZ A0
  rw [ef_23]
  show own_Go _ _ _ _ (T0.setTop (mkF m 0 #[.val (.ref r0), .val (.int (0 : Int32)), .unset, .unset, .unset] []))
  refine own_go (fun t_ k_ => XS.aloadN A0.here hx rfl (hb hby d23_0) rfl rfl k_) ?_
  show own_Go _ _ _ _ (T0.setTop (mkF m 1 #[.val (.ref r0), .val (.int (0 : Int32)), .unset, .unset, .unset] [(.ref r0)]))
  refine own_go (fun t_ k_ => XS.iloadN A0.here hx rfl (hb hby d23_1) rfl k_) ?_
  show own_Go _ _ _ _ (T0.setTop (mkF m 2 #[.val (.ref r0), .val (.int (0 : Int32)), .unset, .unset, .unset] [(.int (0 : Int32)), (.ref r0)]))
  refine own_callP A0 hx hZ (y := (⟨"com/example/indexloom/indexloom/data/DataLine", "start", "(I)I"⟩ : MethodName)) hown (hw _ (List.mem_of_getElem? (i := 142) rfl)) (hw _ (List.mem_of_getElem? (i := 143) rfl)) (hw _ (List.mem_of_getElem? (i := 144) rfl)) (hw _ (List.mem_of_getElem? (i := 130) rfl)) rfl (hw _ (List.mem_of_getElem? (i := 113) rfl)) (hw _ (List.mem_of_getElem? (i := 145) rfl)) (by decide) (b := r0) (argsL := [(.int (0 : Int32))]) (rest := []) E0 (rm24 l Z a0 hw r0 (0 : Int32) t0 c_ h0 n0 Fb Vb ⟨by decide, by decide⟩) 0 (by decide) (by decide) rfl (by rw [hml]; rfl) (lenOf pd__I_I rfl) rfl (by show 2 * 0 + _ ≤ _; exact Nat.le_of_eq rfl) (hb hby d23_2) (by decide) (by decide) (fun v4 T1 h3 A2 hQ5 => ?_)
  obtain ⟨rfl, rfl⟩ := hQ5
  show own_Go _ _ _ _ (T1.setTop (mkF m 5 #[.val (.ref r0), .val (.int (0 : Int32)), .unset, .unset, .unset] [(.int (f24 (0 : Int32) c_))]))
  rw [hc0]
  show own_Go _ _ _ _ (T1.setTop (mkF m 5 #[.val (.ref r0), .val (.int (0 : Int32)), .unset, .unset, .unset] [(.int (Int32.ofNat sn))]))
  refine own_go (fun t_ k_ => XS.istoreN A2.here hx rfl (hb hby d23_5) rfl (l' := #[.val (.ref r0), .val (.int (0 : Int32)), .val (.int (Int32.ofNat sn)), .unset, .unset]) rfl k_) ?_
  show own_Go _ _ _ _ (T1.setTop (mkF m 6 #[.val (.ref r0), .val (.int (0 : Int32)), .val (.int (Int32.ofNat sn)), .unset, .unset] []))
  refine own_go (fun t_ k_ => XS.aloadN A2.here hx rfl (hb hby d23_6) rfl rfl k_) ?_
  show own_Go _ _ _ _ (T1.setTop (mkF m 7 #[.val (.ref r0), .val (.int (0 : Int32)), .val (.int (Int32.ofNat sn)), .unset, .unset] [(.ref r0)]))
  refine own_go (fun t_ k_ => XS.iloadN A2.here hx rfl (hb hby d23_7) rfl k_) ?_
  show own_Go _ _ _ _ (T1.setTop (mkF m 8 #[.val (.ref r0), .val (.int (0 : Int32)), .val (.int (Int32.ofNat sn)), .unset, .unset] [(.int (0 : Int32)), (.ref r0)]))
  refine own_callP A2 hx hZ (y := (⟨"com/example/indexloom/indexloom/data/DataLine", "end", "(I)I"⟩ : MethodName)) hown (hw _ (List.mem_of_getElem? (i := 146) rfl)) (hw _ (List.mem_of_getElem? (i := 147) rfl)) (hw _ (List.mem_of_getElem? (i := 148) rfl)) (hw _ (List.mem_of_getElem? (i := 130) rfl)) rfl (hw _ (List.mem_of_getElem? (i := 113) rfl)) (hw _ (List.mem_of_getElem? (i := 149) rfl)) (by decide) (b := r0) (argsL := [(.int (0 : Int32))]) (rest := []) E0 (rm25 l Z a0 hw r0 (0 : Int32) t0 c_ h0 n0 Fb Vb ⟨by decide, by decide⟩) 0 (by decide) (by decide) rfl (by rw [hml]; rfl) (lenOf pd__I_I rfl) rfl (by show 2 * 0 + _ ≤ _; exact Nat.le_of_eq rfl) (hb hby d23_8) (by decide) (by decide) (fun v9 T6 h8 A7 hQ10 => ?_)
  obtain ⟨rfl, rfl⟩ := hQ10
  show own_Go _ _ _ _ (T6.setTop (mkF m 11 #[.val (.ref r0), .val (.int (0 : Int32)), .val (.int (Int32.ofNat sn)), .unset, .unset] [(.int (f25 (0 : Int32) c_))]))
  rw [hc1]
  show own_Go _ _ _ _ (T6.setTop (mkF m 11 #[.val (.ref r0), .val (.int (0 : Int32)), .val (.int (Int32.ofNat sn)), .unset, .unset] [(.int (Int32.ofNat en))]))
  refine own_go (fun t_ k_ => XS.istoreN A7.here hx rfl (hb hby d23_11) rfl (l' := #[.val (.ref r0), .val (.int (0 : Int32)), .val (.int (Int32.ofNat sn)), .val (.int (Int32.ofNat en)), .unset]) rfl k_) ?_
  show own_Go _ _ _ _ (T6.setTop (mkF m 12 #[.val (.ref r0), .val (.int (0 : Int32)), .val (.int (Int32.ofNat sn)), .val (.int (Int32.ofNat en)), .unset] []))
  refine own_go (fun t_ k_ => XS.iloadN A7.here hx rfl (hb hby d23_12) rfl k_) ?_
  show own_Go _ _ _ _ (T6.setTop (mkF m 13 #[.val (.ref r0), .val (.int (0 : Int32)), .val (.int (Int32.ofNat sn)), .val (.int (Int32.ofNat en)), .unset] [(.int (Int32.ofNat en))]))
  refine own_go (fun t_ k_ => XS.istore A7.here hx rfl (hb hby d23_13) rfl (l' := #[.val (.ref r0), .val (.int (0 : Int32)), .val (.int (Int32.ofNat sn)), .val (.int (Int32.ofNat en)), .val (.int (Int32.ofNat en))]) rfl k_) ?_
  show own_Go _ _ _ _ (T6.setTop (mkF m 15 #[.val (.ref r0), .val (.int (0 : Int32)), .val (.int (Int32.ofNat sn)), .val (.int (Int32.ofNat en)), .val (.int (Int32.ofNat en))] []))
  exact own_lpS hx hby hml hown hret hlk hZ hw r0 t0 r2 c_ fb h0 E0 Fb Vb Fy Vy sn en hen dot hdot en _ A7 (Nat.le_refl _) hse
theorem ef_0 (m : MethodId) (p0 : Int32) (p1 : Int32) (q2 : Int64) (p3 : Int32) : entryFrame m #[(.int p0), (.int p1), (.long q2), (.int p3)] maxLocals = mkF m 0 #[.val (.int p0), .val (.int p1), .val (.long q2), .second, .val (.int p3), .unset, .unset, .unset, .unset, .unset, .unset, .unset, .unset, .unset, .unset, .unset, .unset, .unset, .unset, .unset] [] := by first | (simp [entryFrame, mkF, argsToLocals, Value.category, maxLocals]; done) | rfl
theorem pd__II_B : parseMethodDescriptor "(II)B" = some ⟨[.int, .int], some .byte⟩ := by decide +kernel
theorem pd___BIZB_I : parseMethodDescriptor "([BIZB)I" = some ⟨[(.array .byte), .int, .boolean, .byte], some .int⟩ := by decide +kernel
theorem pd__JI_B : parseMethodDescriptor "(JI)B" = some ⟨[.long, .int], some .byte⟩ := by decide +kernel
theorem own_wS {Z : State} {a0 : Array Value} (hw : ∀ d ∈ tables_1, d.before a0 Z = true) : ∀ a ∈ Bundle.stringAtoms, a.before a0 Z = true := fun d hd => hw d ((by decide +kernel : ∀ d ∈ Bundle.stringAtoms, d ∈ tables_1) d hd)
theorem pd__Ljava_lang_String_Ljava_lang_String__V : parseMethodDescriptor "(Ljava/lang/String;Ljava/lang/String;)V" = some ⟨[(.object "java/lang/String"), (.object "java/lang/String")], none⟩ := by decide +kernel
theorem pd__Lcom_example_indexloom_indexloom_data_DataHeader__V : parseMethodDescriptor "(Lcom/example/indexloom/indexloom/data/DataHeader;)V" = some ⟨[(.object "com/example/indexloom/indexloom/data/DataHeader")], none⟩ := by decide +kernel
theorem pd__I_BII_V : parseMethodDescriptor "(I[BII)V" = some ⟨[.int, (.array .byte), .int, .int], none⟩ := by decide +kernel
set_option maxRecDepth 65536 in
set_option maxHeartbeats 40000000 in
theorem rm0 (l : Launch) (Z : State) (a0 : Array Value) (hw : ∀ d ∈ tables_1, d.before a0 Z = true) (p0 : Int32) (p1 : Int32) (q2 : Int64) (p3 : Int32) (u8 : Addr) (z_C : Int32) (s_F : Value) (h0 : Heap) (n0 : Nat) (O0 : Old Z n0 h0) (hN : h0.size ≤ n0) (hcw : Jvm.Lit.compactW.before a0 Z = true) (hH : Jvm.D.constsHeld consts_1 Z) (Z0 : n0 ≤ h0.size) (hz : ¬ z_C = 0) (hr_F : s_F.isRef = true) (EU8 : Exa Z Z.heap u8 "sun/nio/cs/UTF_8") (S_UTF_8 : Sta Z Z.heap "java/nio/charset/StandardCharsets" "UTF_8" "Ljava/nio/charset/Charset;" (.ref u8)) (S_INSTANCE : Sta Z Z.heap "sun/nio/cs/UTF_8" "INSTANCE" "Lsun/nio/cs/UTF_8;" (.ref u8)) (S_COMPACT_STRINGS : Sta Z Z.heap "java/lang/String" "COMPACT_STRINGS" "Z" (.int z_C)) (S_SIOOBE_FORMATTER : Sta Z Z.heap "jdk/internal/util/Preconditions" "SIOOBE_FORMATTER" "Ljava/util/function/BiFunction;" s_F) :
    own_MetW l Z n0 x code maxLocals ret room_1 #[(.int p0), (.int p1), (.long q2), (.int p3)] h0 [] (fun v h => v = some (.int 1) ∧ True) := by
  refine own_metW (plainFor_of_name pn_1) ?_
  intro p e s m below meth c T0 hx hby hml hown hnm hret hlk hZ A0 hs0 hS hI
  have hkeep : ∀ (b : Addr) (cl : Cell), Z.heap[b]? = some cl → s.heap[b]? = some cl := by rw [hs0]; exact O0.2.2
  have hn0 : s.heap.size ≤ n0 := by rw [hs0]; exact hN
  have hret : meth.sig.returnType = some .boolean := hret
  rw [ef_0]
  show own_Go _ _ _ _ (T0.setTop (mkF m 0 #[.val (.int p0), .val (.int p1), .val (.long q2), .second, .val (.int p3), .unset, .unset, .unset, .unset, .unset, .unset, .unset, .unset, .unset, .unset, .unset, .unset, .unset, .unset, .unset] []))
  refine own_go (fun t_ k_ => XS.iloadN A0.here hx rfl (hb hby at_0) rfl k_) ?_
  show own_Go _ _ _ _ (T0.setTop (mkF m 1 #[.val (.int p0), .val (.int p1), .val (.long q2), .second, .val (.int p3), .unset, .unset, .unset, .unset, .unset, .unset, .unset, .unset, .unset, .unset, .unset, .unset, .unset, .unset, .unset] [(.int p0)]))
  refine own_go (fun t_ k_ => XS.iconst A0.here hx rfl (hb hby at_1) k_) ?_
  show own_Go _ _ _ _ (T0.setTop (mkF m 2 #[.val (.int p0), .val (.int p1), .val (.long q2), .second, .val (.int p3), .unset, .unset, .unset, .unset, .unset, .unset, .unset, .unset, .unset, .unset, .unset, .unset, .unset, .unset, .unset] [(.int (3 : Int32)), (.int p0)]))
  refine own_go (fun t_ k_ => XS.iand A0.here hx rfl (hb hby at_2) rfl k_) ?_
  show own_Go _ _ _ _ (T0.setTop (mkF m 3 #[.val (.int p0), .val (.int p1), .val (.long q2), .second, .val (.int p3), .unset, .unset, .unset, .unset, .unset, .unset, .unset, .unset, .unset, .unset, .unset, .unset, .unset, .unset, .unset] [(.int (p0 &&& (3 : Int32)))]))
  obtain ⟨off, hoff, eoff⟩ := own_and3 p0
  rw [eoff]
  show own_Go _ _ _ _ (T0.setTop (mkF m 3 #[.val (.int p0), .val (.int p1), .val (.long q2), .second, .val (.int p3), .unset, .unset, .unset, .unset, .unset, .unset, .unset, .unset, .unset, .unset, .unset, .unset, .unset, .unset, .unset] [(.int (Int32.ofNat off))]))
  refine own_go (fun t_ k_ => XS.istore A0.here hx rfl (hb hby at_3) rfl (l' := #[.val (.int p0), .val (.int p1), .val (.long q2), .second, .val (.int p3), .val (.int (Int32.ofNat off)), .unset, .unset, .unset, .unset, .unset, .unset, .unset, .unset, .unset, .unset, .unset, .unset, .unset, .unset]) rfl k_) ?_
  show own_Go _ _ _ _ (T0.setTop (mkF m 5 #[.val (.int p0), .val (.int p1), .val (.long q2), .second, .val (.int p3), .val (.int (Int32.ofNat off)), .unset, .unset, .unset, .unset, .unset, .unset, .unset, .unset, .unset, .unset, .unset, .unset, .unset, .unset] []))
  refine own_go (fun t_ k_ => XS.iloadN A0.here hx rfl (hb hby at_5) rfl k_) ?_
  show own_Go _ _ _ _ (T0.setTop (mkF m 6 #[.val (.int p0), .val (.int p1), .val (.long q2), .second, .val (.int p3), .val (.int (Int32.ofNat off)), .unset, .unset, .unset, .unset, .unset, .unset, .unset, .unset, .unset, .unset, .unset, .unset, .unset, .unset] [(.int p0)]))
  refine own_go (fun t_ k_ => XS.iconst A0.here hx rfl (hb hby at_6) k_) ?_
  show own_Go _ _ _ _ (T0.setTop (mkF m 7 #[.val (.int p0), .val (.int p1), .val (.long q2), .second, .val (.int p3), .val (.int (Int32.ofNat off)), .unset, .unset, .unset, .unset, .unset, .unset, .unset, .unset, .unset, .unset, .unset, .unset, .unset, .unset] [(.int (2 : Int32)), (.int p0)]))
  refine own_go (fun t_ k_ => XS.iushr A0.here hx rfl (hb hby at_7) rfl k_) ?_
  show own_Go _ _ _ _ (T0.setTop (mkF m 8 #[.val (.int p0), .val (.int p1), .val (.long q2), .second, .val (.int p3), .val (.int (Int32.ofNat off)), .unset, .unset, .unset, .unset, .unset, .unset, .unset, .unset, .unset, .unset, .unset, .unset, .unset, .unset] [(.int ((p0.toUInt32 >>> ((2 : Int32) &&& 31).toUInt32).toInt32))]))
  refine own_go (fun t_ k_ => XS.iconst A0.here hx rfl (hb hby at_8) k_) ?_
  show own_Go _ _ _ _ (T0.setTop (mkF m 9 #[.val (.int p0), .val (.int p1), .val (.long q2), .second, .val (.int p3), .val (.int (Int32.ofNat off)), .unset, .unset, .unset, .unset, .unset, .unset, .unset, .unset, .unset, .unset, .unset, .unset, .unset, .unset] [(.int (3 : Int32)), (.int ((p0.toUInt32 >>> ((2 : Int32) &&& 31).toUInt32).toInt32))]))
  refine own_go (fun t_ k_ => XS.iand A0.here hx rfl (hb hby at_9) rfl k_) ?_
  show own_Go _ _ _ _ (T0.setTop (mkF m 10 #[.val (.int p0), .val (.int p1), .val (.long q2), .second, .val (.int p3), .val (.int (Int32.ofNat off)), .unset, .unset, .unset, .unset, .unset, .unset, .unset, .unset, .unset, .unset, .unset, .unset, .unset, .unset] [(.int (((p0.toUInt32 >>> ((2 : Int32) &&& 31).toUInt32).toInt32) &&& (3 : Int32)))]))
  obtain ⟨nb, hnb, enb⟩ := own_and3 ((p0.toUInt32 >>> ((2 : Int32) &&& 31).toUInt32).toInt32)
  rw [enb]
  show own_Go _ _ _ _ (T0.setTop (mkF m 10 #[.val (.int p0), .val (.int p1), .val (.long q2), .second, .val (.int p3), .val (.int (Int32.ofNat off)), .unset, .unset, .unset, .unset, .unset, .unset, .unset, .unset, .unset, .unset, .unset, .unset, .unset, .unset] [(.int (Int32.ofNat nb))]))
  refine own_go (fun t_ k_ => XS.istore A0.here hx rfl (hb hby at_10) rfl (l' := #[.val (.int p0), .val (.int p1), .val (.long q2), .second, .val (.int p3), .val (.int (Int32.ofNat off)), .val (.int (Int32.ofNat nb)), .unset, .unset, .unset, .unset, .unset, .unset, .unset, .unset, .unset, .unset, .unset, .unset, .unset]) rfl k_) ?_
  show own_Go _ _ _ _ (T0.setTop (mkF m 12 #[.val (.int p0), .val (.int p1), .val (.long q2), .second, .val (.int p3), .val (.int (Int32.ofNat off)), .val (.int (Int32.ofNat nb)), .unset, .unset, .unset, .unset, .unset, .unset, .unset, .unset, .unset, .unset, .unset, .unset, .unset] []))
  refine own_go (fun t_ k_ => XS.iloadN A0.here hx rfl (hb hby at_12) rfl k_) ?_
  show own_Go _ _ _ _ (T0.setTop (mkF m 13 #[.val (.int p0), .val (.int p1), .val (.long q2), .second, .val (.int p3), .val (.int (Int32.ofNat off)), .val (.int (Int32.ofNat nb)), .unset, .unset, .unset, .unset, .unset, .unset, .unset, .unset, .unset, .unset, .unset, .unset, .unset] [(.int p0)]))
  refine own_go (fun t_ k_ => XS.iconst A0.here hx rfl (hb hby at_13) k_) ?_
  show own_Go _ _ _ _ (T0.setTop (mkF m 14 #[.val (.int p0), .val (.int p1), .val (.long q2), .second, .val (.int p3), .val (.int (Int32.ofNat off)), .val (.int (Int32.ofNat nb)), .unset, .unset, .unset, .unset, .unset, .unset, .unset, .unset, .unset, .unset, .unset, .unset, .unset] [(.int (4 : Int32)), (.int p0)]))
  refine own_go (fun t_ k_ => XS.iushr A0.here hx rfl (hb hby at_14) rfl k_) ?_
  show own_Go _ _ _ _ (T0.setTop (mkF m 15 #[.val (.int p0), .val (.int p1), .val (.long q2), .second, .val (.int p3), .val (.int (Int32.ofNat off)), .val (.int (Int32.ofNat nb)), .unset, .unset, .unset, .unset, .unset, .unset, .unset, .unset, .unset, .unset, .unset, .unset, .unset] [(.int ((p0.toUInt32 >>> ((4 : Int32) &&& 31).toUInt32).toInt32))]))
  refine own_go (fun t_ k_ => XS.iconst A0.here hx rfl (hb hby at_15) k_) ?_
  show own_Go _ _ _ _ (T0.setTop (mkF m 16 #[.val (.int p0), .val (.int p1), .val (.long q2), .second, .val (.int p3), .val (.int (Int32.ofNat off)), .val (.int (Int32.ofNat nb)), .unset, .unset, .unset, .unset, .unset, .unset, .unset, .unset, .unset, .unset, .unset, .unset, .unset] [(.int (1 : Int32)), (.int ((p0.toUInt32 >>> ((4 : Int32) &&& 31).toUInt32).toInt32))]))
  refine own_go (fun t_ k_ => XS.iand A0.here hx rfl (hb hby at_16) rfl k_) ?_
  show own_Go _ _ _ _ (T0.setTop (mkF m 17 #[.val (.int p0), .val (.int p1), .val (.long q2), .second, .val (.int p3), .val (.int (Int32.ofNat off)), .val (.int (Int32.ofNat nb)), .unset, .unset, .unset, .unset, .unset, .unset, .unset, .unset, .unset, .unset, .unset, .unset, .unset] [(.int (((p0.toUInt32 >>> ((4 : Int32) &&& 31).toUInt32).toInt32) &&& (1 : Int32)))]))
  have mg1 : ∀ t_, Steps p.tables e below (T0.setTop (mkF m 25 #[.val (.int p0), .val (.int p1), .val (.long q2), .second, .val (.int p3), .val (.int (Int32.ofNat off)), .val (.int (Int32.ofNat nb)), .unset, .unset, .unset, .unset, .unset, .unset, .unset, .unset, .unset, .unset, .unset, .unset, .unset] [(.int (if (((p0.toUInt32 >>> ((4 : Int32) &&& 31).toUInt32).toInt32) &&& (1 : Int32)) = (0 : Int32) then (0 : Int32) else (1 : Int32)))])) t_ → Steps p.tables e below (T0.setTop (mkF m 17 #[.val (.int p0), .val (.int p1), .val (.long q2), .second, .val (.int p3), .val (.int (Int32.ofNat off)), .val (.int (Int32.ofNat nb)), .unset, .unset, .unset, .unset, .unset, .unset, .unset, .unset, .unset, .unset, .unset, .unset, .unset] [(.int (((p0.toUInt32 >>> ((4 : Int32) &&& 31).toUInt32).toInt32) &&& (1 : Int32)))])) t_ := by
    intro t_ k_
    by_cases hm17_0 : (((p0.toUInt32 >>> ((4 : Int32) &&& 31).toUInt32).toInt32) &&& (1 : Int32)) = (0 : Int32)
    ·
      simp only [if_pos hm17_0] at k_
      exact (XS.ifYes A0.here hx rfl (pc0 := 17) (pc' := 24) rfl (hb hby at_17) rfl ((if0 _ _).trans (teq hm17_0).1) (by decide) (by decide) (XS.iconst A0.here hx rfl (hb hby at_24) k_))
    ·
      simp only [if_neg hm17_0] at k_
      exact (XS.ifNo A0.here hx rfl (hb hby at_17) rfl ((if0 _ _).trans (feq hm17_0).1) (XS.iconst A0.here hx rfl (hb hby at_20) (XS.goto A0.here hx rfl (pc0 := 21) (pc' := 25) rfl (hb hby at_21) (by decide) (by decide) k_)))
  refine own_go mg1 ?_
  show own_Go _ _ _ _ (T0.setTop (mkF m 25 #[.val (.int p0), .val (.int p1), .val (.long q2), .second, .val (.int p3), .val (.int (Int32.ofNat off)), .val (.int (Int32.ofNat nb)), .unset, .unset, .unset, .unset, .unset, .unset, .unset, .unset, .unset, .unset, .unset, .unset, .unset] [(.int (if (((p0.toUInt32 >>> ((4 : Int32) &&& 31).toUInt32).toInt32) &&& (1 : Int32)) = (0 : Int32) then (0 : Int32) else (1 : Int32)))]))
  obtain ⟨neg, eneg⟩ := own_flag ((((p0.toUInt32 >>> ((4 : Int32) &&& 31).toUInt32).toInt32) &&& (1 : Int32)) = (0 : Int32))
  rw [eneg]
  show own_Go _ _ _ _ (T0.setTop (mkF m 25 #[.val (.int p0), .val (.int p1), .val (.long q2), .second, .val (.int p3), .val (.int (Int32.ofNat off)), .val (.int (Int32.ofNat nb)), .unset, .unset, .unset, .unset, .unset, .unset, .unset, .unset, .unset, .unset, .unset, .unset, .unset] [(.int (if neg = true then (1 : Int32) else 0))]))
  refine own_go (fun t_ k_ => XS.istore A0.here hx rfl (hb hby at_25) rfl (l' := #[.val (.int p0), .val (.int p1), .val (.long q2), .second, .val (.int p3), .val (.int (Int32.ofNat off)), .val (.int (Int32.ofNat nb)), .val (.int (if neg = true then (1 : Int32) else 0)), .unset, .unset, .unset, .unset, .unset, .unset, .unset, .unset, .unset, .unset, .unset, .unset]) rfl k_) ?_
  show own_Go _ _ _ _ (T0.setTop (mkF m 27 #[.val (.int p0), .val (.int p1), .val (.long q2), .second, .val (.int p3), .val (.int (Int32.ofNat off)), .val (.int (Int32.ofNat nb)), .val (.int (if neg = true then (1 : Int32) else 0)), .unset, .unset, .unset, .unset, .unset, .unset, .unset, .unset, .unset, .unset, .unset, .unset] []))
  refine own_go (fun t_ k_ => XS.iconst A0.here hx rfl (hb hby at_27) k_) ?_
  show own_Go _ _ _ _ (T0.setTop (mkF m 28 #[.val (.int p0), .val (.int p1), .val (.long q2), .second, .val (.int p3), .val (.int (Int32.ofNat off)), .val (.int (Int32.ofNat nb)), .val (.int (if neg = true then (1 : Int32) else 0)), .unset, .unset, .unset, .unset, .unset, .unset, .unset, .unset, .unset, .unset, .unset, .unset] [(.int (1 : Int32))]))
  refine own_go (fun t_ k_ => XS.iloadN A0.here hx rfl (hb hby at_28) rfl k_) ?_
  show own_Go _ _ _ _ (T0.setTop (mkF m 29 #[.val (.int p0), .val (.int p1), .val (.long q2), .second, .val (.int p3), .val (.int (Int32.ofNat off)), .val (.int (Int32.ofNat nb)), .val (.int (if neg = true then (1 : Int32) else 0)), .unset, .unset, .unset, .unset, .unset, .unset, .unset, .unset, .unset, .unset, .unset, .unset] [(.int p0), (.int (1 : Int32))]))
  refine own_go (fun t_ k_ => XS.iconst A0.here hx rfl (hb hby at_29) k_) ?_
  show own_Go _ _ _ _ (T0.setTop (mkF m 30 #[.val (.int p0), .val (.int p1), .val (.long q2), .second, .val (.int p3), .val (.int (Int32.ofNat off)), .val (.int (Int32.ofNat nb)), .val (.int (if neg = true then (1 : Int32) else 0)), .unset, .unset, .unset, .unset, .unset, .unset, .unset, .unset, .unset, .unset, .unset, .unset] [(.int (5 : Int32)), (.int p0), (.int (1 : Int32))]))
  refine own_go (fun t_ k_ => XS.iushr A0.here hx rfl (hb hby at_30) rfl k_) ?_
  show own_Go _ _ _ _ (T0.setTop (mkF m 31 #[.val (.int p0), .val (.int p1), .val (.long q2), .second, .val (.int p3), .val (.int (Int32.ofNat off)), .val (.int (Int32.ofNat nb)), .val (.int (if neg = true then (1 : Int32) else 0)), .unset, .unset, .unset, .unset, .unset, .unset, .unset, .unset, .unset, .unset, .unset, .unset] [(.int ((p0.toUInt32 >>> ((5 : Int32) &&& 31).toUInt32).toInt32)), (.int (1 : Int32))]))
  refine own_go (fun t_ k_ => XS.iconst A0.here hx rfl (hb hby at_31) k_) ?_
  show own_Go _ _ _ _ (T0.setTop (mkF m 32 #[.val (.int p0), .val (.int p1), .val (.long q2), .second, .val (.int p3), .val (.int (Int32.ofNat off)), .val (.int (Int32.ofNat nb)), .val (.int (if neg = true then (1 : Int32) else 0)), .unset, .unset, .unset, .unset, .unset, .unset, .unset, .unset, .unset, .unset, .unset, .unset] [(.int (3 : Int32)), (.int ((p0.toUInt32 >>> ((5 : Int32) &&& 31).toUInt32).toInt32)), (.int (1 : Int32))]))
  refine own_go (fun t_ k_ => XS.iand A0.here hx rfl (hb hby at_32) rfl k_) ?_
  show own_Go _ _ _ _ (T0.setTop (mkF m 33 #[.val (.int p0), .val (.int p1), .val (.long q2), .second, .val (.int p3), .val (.int (Int32.ofNat off)), .val (.int (Int32.ofNat nb)), .val (.int (if neg = true then (1 : Int32) else 0)), .unset, .unset, .unset, .unset, .unset, .unset, .unset, .unset, .unset, .unset, .unset, .unset] [(.int (((p0.toUInt32 >>> ((5 : Int32) &&& 31).toUInt32).toInt32) &&& (3 : Int32))), (.int (1 : Int32))]))
  refine own_go (fun t_ k_ => XS.iadd A0.here hx rfl (hb hby at_33) rfl k_) ?_
  show own_Go _ _ _ _ (T0.setTop (mkF m 34 #[.val (.int p0), .val (.int p1), .val (.long q2), .second, .val (.int p3), .val (.int (Int32.ofNat off)), .val (.int (Int32.ofNat nb)), .val (.int (if neg = true then (1 : Int32) else 0)), .unset, .unset, .unset, .unset, .unset, .unset, .unset, .unset, .unset, .unset, .unset, .unset] [(.int ((1 : Int32) + (((p0.toUInt32 >>> ((5 : Int32) &&& 31).toUInt32).toInt32) &&& (3 : Int32))))]))
  obtain ⟨ni, hni, eni⟩ := own_and31 ((p0.toUInt32 >>> ((5 : Int32) &&& 31).toUInt32).toInt32)
  rw [eni]
  show own_Go _ _ _ _ (T0.setTop (mkF m 34 #[.val (.int p0), .val (.int p1), .val (.long q2), .second, .val (.int p3), .val (.int (Int32.ofNat off)), .val (.int (Int32.ofNat nb)), .val (.int (if neg = true then (1 : Int32) else 0)), .unset, .unset, .unset, .unset, .unset, .unset, .unset, .unset, .unset, .unset, .unset, .unset] [(.int (Int32.ofNat ni))]))
  refine own_go (fun t_ k_ => XS.istore A0.here hx rfl (hb hby at_34) rfl (l' := #[.val (.int p0), .val (.int p1), .val (.long q2), .second, .val (.int p3), .val (.int (Int32.ofNat off)), .val (.int (Int32.ofNat nb)), .val (.int (if neg = true then (1 : Int32) else 0)), .val (.int (Int32.ofNat ni)), .unset, .unset, .unset, .unset, .unset, .unset, .unset, .unset, .unset, .unset, .unset]) rfl k_) ?_
  show own_Go _ _ _ _ (T0.setTop (mkF m 36 #[.val (.int p0), .val (.int p1), .val (.long q2), .second, .val (.int p3), .val (.int (Int32.ofNat off)), .val (.int (Int32.ofNat nb)), .val (.int (if neg = true then (1 : Int32) else 0)), .val (.int (Int32.ofNat ni)), .unset, .unset, .unset, .unset, .unset, .unset, .unset, .unset, .unset, .unset, .unset] []))
  refine own_go (fun t_ k_ => XS.iloadN A0.here hx rfl (hb hby at_36) rfl k_) ?_
  show own_Go _ _ _ _ (T0.setTop (mkF m 37 #[.val (.int p0), .val (.int p1), .val (.long q2), .second, .val (.int p3), .val (.int (Int32.ofNat off)), .val (.int (Int32.ofNat nb)), .val (.int (if neg = true then (1 : Int32) else 0)), .val (.int (Int32.ofNat ni)), .unset, .unset, .unset, .unset, .unset, .unset, .unset, .unset, .unset, .unset, .unset] [(.int p0)]))
  refine own_go (fun t_ k_ => XS.bipush A0.here hx rfl (hb hby at_37) k_) ?_
  show own_Go _ _ _ _ (T0.setTop (mkF m 39 #[.val (.int p0), .val (.int p1), .val (.long q2), .second, .val (.int p3), .val (.int (Int32.ofNat off)), .val (.int (Int32.ofNat nb)), .val (.int (if neg = true then (1 : Int32) else 0)), .val (.int (Int32.ofNat ni)), .unset, .unset, .unset, .unset, .unset, .unset, .unset, .unset, .unset, .unset, .unset] [(.int (7 : Int32)), (.int p0)]))
  refine own_go (fun t_ k_ => XS.iushr A0.here hx rfl (hb hby at_39) rfl k_) ?_
  show own_Go _ _ _ _ (T0.setTop (mkF m 40 #[.val (.int p0), .val (.int p1), .val (.long q2), .second, .val (.int p3), .val (.int (Int32.ofNat off)), .val (.int (Int32.ofNat nb)), .val (.int (if neg = true then (1 : Int32) else 0)), .val (.int (Int32.ofNat ni)), .unset, .unset, .unset, .unset, .unset, .unset, .unset, .unset, .unset, .unset, .unset] [(.int ((p0.toUInt32 >>> ((7 : Int32) &&& 31).toUInt32).toInt32))]))
  refine own_go (fun t_ k_ => XS.iconst A0.here hx rfl (hb hby at_40) k_) ?_
  show own_Go _ _ _ _ (T0.setTop (mkF m 41 #[.val (.int p0), .val (.int p1), .val (.long q2), .second, .val (.int p3), .val (.int (Int32.ofNat off)), .val (.int (Int32.ofNat nb)), .val (.int (if neg = true then (1 : Int32) else 0)), .val (.int (Int32.ofNat ni)), .unset, .unset, .unset, .unset, .unset, .unset, .unset, .unset, .unset, .unset, .unset] [(.int (1 : Int32)), (.int ((p0.toUInt32 >>> ((7 : Int32) &&& 31).toUInt32).toInt32))]))
  refine own_go (fun t_ k_ => XS.iand A0.here hx rfl (hb hby at_41) rfl k_) ?_
  show own_Go _ _ _ _ (T0.setTop (mkF m 42 #[.val (.int p0), .val (.int p1), .val (.long q2), .second, .val (.int p3), .val (.int (Int32.ofNat off)), .val (.int (Int32.ofNat nb)), .val (.int (if neg = true then (1 : Int32) else 0)), .val (.int (Int32.ofNat ni)), .unset, .unset, .unset, .unset, .unset, .unset, .unset, .unset, .unset, .unset, .unset] [(.int (((p0.toUInt32 >>> ((7 : Int32) &&& 31).toUInt32).toInt32) &&& (1 : Int32)))]))
  have mg2 : ∀ t_, Steps p.tables e below (T0.setTop (mkF m 50 #[.val (.int p0), .val (.int p1), .val (.long q2), .second, .val (.int p3), .val (.int (Int32.ofNat off)), .val (.int (Int32.ofNat nb)), .val (.int (if neg = true then (1 : Int32) else 0)), .val (.int (Int32.ofNat ni)), .unset, .unset, .unset, .unset, .unset, .unset, .unset, .unset, .unset, .unset, .unset] [(.int (if (((p0.toUInt32 >>> ((7 : Int32) &&& 31).toUInt32).toInt32) &&& (1 : Int32)) = (0 : Int32) then (0 : Int32) else (1 : Int32)))])) t_ → Steps p.tables e below (T0.setTop (mkF m 42 #[.val (.int p0), .val (.int p1), .val (.long q2), .second, .val (.int p3), .val (.int (Int32.ofNat off)), .val (.int (Int32.ofNat nb)), .val (.int (if neg = true then (1 : Int32) else 0)), .val (.int (Int32.ofNat ni)), .unset, .unset, .unset, .unset, .unset, .unset, .unset, .unset, .unset, .unset, .unset] [(.int (((p0.toUInt32 >>> ((7 : Int32) &&& 31).toUInt32).toInt32) &&& (1 : Int32)))])) t_ := by
    intro t_ k_
    by_cases hm42_0 : (((p0.toUInt32 >>> ((7 : Int32) &&& 31).toUInt32).toInt32) &&& (1 : Int32)) = (0 : Int32)
    ·
      simp only [if_pos hm42_0] at k_
      exact (XS.ifYes A0.here hx rfl (pc0 := 42) (pc' := 49) rfl (hb hby at_42) rfl ((if0 _ _).trans (teq hm42_0).1) (by decide) (by decide) (XS.iconst A0.here hx rfl (hb hby at_49) k_))
    ·
      simp only [if_neg hm42_0] at k_
      exact (XS.ifNo A0.here hx rfl (hb hby at_42) rfl ((if0 _ _).trans (feq hm42_0).1) (XS.iconst A0.here hx rfl (hb hby at_45) (XS.goto A0.here hx rfl (pc0 := 46) (pc' := 50) rfl (hb hby at_46) (by decide) (by decide) k_)))
  refine own_go mg2 ?_
  show own_Go _ _ _ _ (T0.setTop (mkF m 50 #[.val (.int p0), .val (.int p1), .val (.long q2), .second, .val (.int p3), .val (.int (Int32.ofNat off)), .val (.int (Int32.ofNat nb)), .val (.int (if neg = true then (1 : Int32) else 0)), .val (.int (Int32.ofNat ni)), .unset, .unset, .unset, .unset, .unset, .unset, .unset, .unset, .unset, .unset, .unset] [(.int (if (((p0.toUInt32 >>> ((7 : Int32) &&& 31).toUInt32).toInt32) &&& (1 : Int32)) = (0 : Int32) then (0 : Int32) else (1 : Int32)))]))
  obtain ⟨pt, ept⟩ := own_flag ((((p0.toUInt32 >>> ((7 : Int32) &&& 31).toUInt32).toInt32) &&& (1 : Int32)) = (0 : Int32))
  rw [ept]
  show own_Go _ _ _ _ (T0.setTop (mkF m 50 #[.val (.int p0), .val (.int p1), .val (.long q2), .second, .val (.int p3), .val (.int (Int32.ofNat off)), .val (.int (Int32.ofNat nb)), .val (.int (if neg = true then (1 : Int32) else 0)), .val (.int (Int32.ofNat ni)), .unset, .unset, .unset, .unset, .unset, .unset, .unset, .unset, .unset, .unset, .unset] [(.int (if pt = true then (1 : Int32) else 0))]))
  refine own_go (fun t_ k_ => XS.istore A0.here hx rfl (hb hby at_50) rfl (l' := #[.val (.int p0), .val (.int p1), .val (.long q2), .second, .val (.int p3), .val (.int (Int32.ofNat off)), .val (.int (Int32.ofNat nb)), .val (.int (if neg = true then (1 : Int32) else 0)), .val (.int (Int32.ofNat ni)), .val (.int (if pt = true then (1 : Int32) else 0)), .unset, .unset, .unset, .unset, .unset, .unset, .unset, .unset, .unset, .unset]) rfl k_) ?_
  show own_Go _ _ _ _ (T0.setTop (mkF m 52 #[.val (.int p0), .val (.int p1), .val (.long q2), .second, .val (.int p3), .val (.int (Int32.ofNat off)), .val (.int (Int32.ofNat nb)), .val (.int (if neg = true then (1 : Int32) else 0)), .val (.int (Int32.ofNat ni)), .val (.int (if pt = true then (1 : Int32) else 0)), .unset, .unset, .unset, .unset, .unset, .unset, .unset, .unset, .unset, .unset] []))
  refine own_go (fun t_ k_ => XS.iconst A0.here hx rfl (hb hby at_52) k_) ?_
  show own_Go _ _ _ _ (T0.setTop (mkF m 53 #[.val (.int p0), .val (.int p1), .val (.long q2), .second, .val (.int p3), .val (.int (Int32.ofNat off)), .val (.int (Int32.ofNat nb)), .val (.int (if neg = true then (1 : Int32) else 0)), .val (.int (Int32.ofNat ni)), .val (.int (if pt = true then (1 : Int32) else 0)), .unset, .unset, .unset, .unset, .unset, .unset, .unset, .unset, .unset, .unset] [(.int (1 : Int32))]))
  refine own_go (fun t_ k_ => XS.iloadN A0.here hx rfl (hb hby at_53) rfl k_) ?_
  show own_Go _ _ _ _ (T0.setTop (mkF m 54 #[.val (.int p0), .val (.int p1), .val (.long q2), .second, .val (.int p3), .val (.int (Int32.ofNat off)), .val (.int (Int32.ofNat nb)), .val (.int (if neg = true then (1 : Int32) else 0)), .val (.int (Int32.ofNat ni)), .val (.int (if pt = true then (1 : Int32) else 0)), .unset, .unset, .unset, .unset, .unset, .unset, .unset, .unset, .unset, .unset] [(.int p0), (.int (1 : Int32))]))
  refine own_go (fun t_ k_ => XS.bipush A0.here hx rfl (hb hby at_54) k_) ?_
  show own_Go _ _ _ _ (T0.setTop (mkF m 56 #[.val (.int p0), .val (.int p1), .val (.long q2), .second, .val (.int p3), .val (.int (Int32.ofNat off)), .val (.int (Int32.ofNat nb)), .val (.int (if neg = true then (1 : Int32) else 0)), .val (.int (Int32.ofNat ni)), .val (.int (if pt = true then (1 : Int32) else 0)), .unset, .unset, .unset, .unset, .unset, .unset, .unset, .unset, .unset, .unset] [(.int (8 : Int32)), (.int p0), (.int (1 : Int32))]))
  refine own_go (fun t_ k_ => XS.iushr A0.here hx rfl (hb hby at_56) rfl k_) ?_
  show own_Go _ _ _ _ (T0.setTop (mkF m 57 #[.val (.int p0), .val (.int p1), .val (.long q2), .second, .val (.int p3), .val (.int (Int32.ofNat off)), .val (.int (Int32.ofNat nb)), .val (.int (if neg = true then (1 : Int32) else 0)), .val (.int (Int32.ofNat ni)), .val (.int (if pt = true then (1 : Int32) else 0)), .unset, .unset, .unset, .unset, .unset, .unset, .unset, .unset, .unset, .unset] [(.int ((p0.toUInt32 >>> ((8 : Int32) &&& 31).toUInt32).toInt32)), (.int (1 : Int32))]))
  refine own_go (fun t_ k_ => XS.iconst A0.here hx rfl (hb hby at_57) k_) ?_
  show own_Go _ _ _ _ (T0.setTop (mkF m 58 #[.val (.int p0), .val (.int p1), .val (.long q2), .second, .val (.int p3), .val (.int (Int32.ofNat off)), .val (.int (Int32.ofNat nb)), .val (.int (if neg = true then (1 : Int32) else 0)), .val (.int (Int32.ofNat ni)), .val (.int (if pt = true then (1 : Int32) else 0)), .unset, .unset, .unset, .unset, .unset, .unset, .unset, .unset, .unset, .unset] [(.int (3 : Int32)), (.int ((p0.toUInt32 >>> ((8 : Int32) &&& 31).toUInt32).toInt32)), (.int (1 : Int32))]))
  refine own_go (fun t_ k_ => XS.iand A0.here hx rfl (hb hby at_58) rfl k_) ?_
  show own_Go _ _ _ _ (T0.setTop (mkF m 59 #[.val (.int p0), .val (.int p1), .val (.long q2), .second, .val (.int p3), .val (.int (Int32.ofNat off)), .val (.int (Int32.ofNat nb)), .val (.int (if neg = true then (1 : Int32) else 0)), .val (.int (Int32.ofNat ni)), .val (.int (if pt = true then (1 : Int32) else 0)), .unset, .unset, .unset, .unset, .unset, .unset, .unset, .unset, .unset, .unset] [(.int (((p0.toUInt32 >>> ((8 : Int32) &&& 31).toUInt32).toInt32) &&& (3 : Int32))), (.int (1 : Int32))]))
  refine own_go (fun t_ k_ => XS.iadd A0.here hx rfl (hb hby at_59) rfl k_) ?_
  show own_Go _ _ _ _ (T0.setTop (mkF m 60 #[.val (.int p0), .val (.int p1), .val (.long q2), .second, .val (.int p3), .val (.int (Int32.ofNat off)), .val (.int (Int32.ofNat nb)), .val (.int (if neg = true then (1 : Int32) else 0)), .val (.int (Int32.ofNat ni)), .val (.int (if pt = true then (1 : Int32) else 0)), .unset, .unset, .unset, .unset, .unset, .unset, .unset, .unset, .unset, .unset] [(.int ((1 : Int32) + (((p0.toUInt32 >>> ((8 : Int32) &&& 31).toUInt32).toInt32) &&& (3 : Int32))))]))
  obtain ⟨nf, hnf, enf⟩ := own_and31 ((p0.toUInt32 >>> ((8 : Int32) &&& 31).toUInt32).toInt32)
  rw [enf]
  show own_Go _ _ _ _ (T0.setTop (mkF m 60 #[.val (.int p0), .val (.int p1), .val (.long q2), .second, .val (.int p3), .val (.int (Int32.ofNat off)), .val (.int (Int32.ofNat nb)), .val (.int (if neg = true then (1 : Int32) else 0)), .val (.int (Int32.ofNat ni)), .val (.int (if pt = true then (1 : Int32) else 0)), .unset, .unset, .unset, .unset, .unset, .unset, .unset, .unset, .unset, .unset] [(.int (Int32.ofNat nf))]))
  refine own_go (fun t_ k_ => XS.istore A0.here hx rfl (hb hby at_60) rfl (l' := #[.val (.int p0), .val (.int p1), .val (.long q2), .second, .val (.int p3), .val (.int (Int32.ofNat off)), .val (.int (Int32.ofNat nb)), .val (.int (if neg = true then (1 : Int32) else 0)), .val (.int (Int32.ofNat ni)), .val (.int (if pt = true then (1 : Int32) else 0)), .val (.int (Int32.ofNat nf)), .unset, .unset, .unset, .unset, .unset, .unset, .unset, .unset, .unset]) rfl k_) ?_
  show own_Go _ _ _ _ (T0.setTop (mkF m 62 #[.val (.int p0), .val (.int p1), .val (.long q2), .second, .val (.int p3), .val (.int (Int32.ofNat off)), .val (.int (Int32.ofNat nb)), .val (.int (if neg = true then (1 : Int32) else 0)), .val (.int (Int32.ofNat ni)), .val (.int (if pt = true then (1 : Int32) else 0)), .val (.int (Int32.ofNat nf)), .unset, .unset, .unset, .unset, .unset, .unset, .unset, .unset, .unset] []))
  refine own_go (fun t_ k_ => XS.iloadN A0.here hx rfl (hb hby at_62) rfl k_) ?_
  show own_Go _ _ _ _ (T0.setTop (mkF m 63 #[.val (.int p0), .val (.int p1), .val (.long q2), .second, .val (.int p3), .val (.int (Int32.ofNat off)), .val (.int (Int32.ofNat nb)), .val (.int (if neg = true then (1 : Int32) else 0)), .val (.int (Int32.ofNat ni)), .val (.int (if pt = true then (1 : Int32) else 0)), .val (.int (Int32.ofNat nf)), .unset, .unset, .unset, .unset, .unset, .unset, .unset, .unset, .unset] [(.int p0)]))
  refine own_go (fun t_ k_ => XS.bipush A0.here hx rfl (hb hby at_63) k_) ?_
  show own_Go _ _ _ _ (T0.setTop (mkF m 65 #[.val (.int p0), .val (.int p1), .val (.long q2), .second, .val (.int p3), .val (.int (Int32.ofNat off)), .val (.int (Int32.ofNat nb)), .val (.int (if neg = true then (1 : Int32) else 0)), .val (.int (Int32.ofNat ni)), .val (.int (if pt = true then (1 : Int32) else 0)), .val (.int (Int32.ofNat nf)), .unset, .unset, .unset, .unset, .unset, .unset, .unset, .unset, .unset] [(.int (10 : Int32)), (.int p0)]))
  refine own_go (fun t_ k_ => XS.iushr A0.here hx rfl (hb hby at_65) rfl k_) ?_
  show own_Go _ _ _ _ (T0.setTop (mkF m 66 #[.val (.int p0), .val (.int p1), .val (.long q2), .second, .val (.int p3), .val (.int (Int32.ofNat off)), .val (.int (Int32.ofNat nb)), .val (.int (if neg = true then (1 : Int32) else 0)), .val (.int (Int32.ofNat ni)), .val (.int (if pt = true then (1 : Int32) else 0)), .val (.int (Int32.ofNat nf)), .unset, .unset, .unset, .unset, .unset, .unset, .unset, .unset, .unset] [(.int ((p0.toUInt32 >>> ((10 : Int32) &&& 31).toUInt32).toInt32))]))
  refine own_go (fun t_ k_ => XS.iconst A0.here hx rfl (hb hby at_66) k_) ?_
  show own_Go _ _ _ _ (T0.setTop (mkF m 67 #[.val (.int p0), .val (.int p1), .val (.long q2), .second, .val (.int p3), .val (.int (Int32.ofNat off)), .val (.int (Int32.ofNat nb)), .val (.int (if neg = true then (1 : Int32) else 0)), .val (.int (Int32.ofNat ni)), .val (.int (if pt = true then (1 : Int32) else 0)), .val (.int (Int32.ofNat nf)), .unset, .unset, .unset, .unset, .unset, .unset, .unset, .unset, .unset] [(.int (3 : Int32)), (.int ((p0.toUInt32 >>> ((10 : Int32) &&& 31).toUInt32).toInt32))]))
  refine own_go (fun t_ k_ => XS.iand A0.here hx rfl (hb hby at_67) rfl k_) ?_
  show own_Go _ _ _ _ (T0.setTop (mkF m 68 #[.val (.int p0), .val (.int p1), .val (.long q2), .second, .val (.int p3), .val (.int (Int32.ofNat off)), .val (.int (Int32.ofNat nb)), .val (.int (if neg = true then (1 : Int32) else 0)), .val (.int (Int32.ofNat ni)), .val (.int (if pt = true then (1 : Int32) else 0)), .val (.int (Int32.ofNat nf)), .unset, .unset, .unset, .unset, .unset, .unset, .unset, .unset, .unset] [(.int (((p0.toUInt32 >>> ((10 : Int32) &&& 31).toUInt32).toInt32) &&& (3 : Int32)))]))
  obtain ⟨nt, hnt, ent⟩ := own_and3 ((p0.toUInt32 >>> ((10 : Int32) &&& 31).toUInt32).toInt32)
  rw [ent]
  show own_Go _ _ _ _ (T0.setTop (mkF m 68 #[.val (.int p0), .val (.int p1), .val (.long q2), .second, .val (.int p3), .val (.int (Int32.ofNat off)), .val (.int (Int32.ofNat nb)), .val (.int (if neg = true then (1 : Int32) else 0)), .val (.int (Int32.ofNat ni)), .val (.int (if pt = true then (1 : Int32) else 0)), .val (.int (Int32.ofNat nf)), .unset, .unset, .unset, .unset, .unset, .unset, .unset, .unset, .unset] [(.int (Int32.ofNat nt))]))
  refine own_go (fun t_ k_ => XS.istore A0.here hx rfl (hb hby at_68) rfl (l' := #[.val (.int p0), .val (.int p1), .val (.long q2), .second, .val (.int p3), .val (.int (Int32.ofNat off)), .val (.int (Int32.ofNat nb)), .val (.int (if neg = true then (1 : Int32) else 0)), .val (.int (Int32.ofNat ni)), .val (.int (if pt = true then (1 : Int32) else 0)), .val (.int (Int32.ofNat nf)), .val (.int (Int32.ofNat nt)), .unset, .unset, .unset, .unset, .unset, .unset, .unset, .unset]) rfl k_) ?_
  show own_Go _ _ _ _ (T0.setTop (mkF m 70 #[.val (.int p0), .val (.int p1), .val (.long q2), .second, .val (.int p3), .val (.int (Int32.ofNat off)), .val (.int (Int32.ofNat nb)), .val (.int (if neg = true then (1 : Int32) else 0)), .val (.int (Int32.ofNat ni)), .val (.int (if pt = true then (1 : Int32) else 0)), .val (.int (Int32.ofNat nf)), .val (.int (Int32.ofNat nt)), .unset, .unset, .unset, .unset, .unset, .unset, .unset, .unset] []))
  refine own_go (fun t_ k_ => XS.iloadN A0.here hx rfl (hb hby at_70) rfl k_) ?_
  show own_Go _ _ _ _ (T0.setTop (mkF m 71 #[.val (.int p0), .val (.int p1), .val (.long q2), .second, .val (.int p3), .val (.int (Int32.ofNat off)), .val (.int (Int32.ofNat nb)), .val (.int (if neg = true then (1 : Int32) else 0)), .val (.int (Int32.ofNat ni)), .val (.int (if pt = true then (1 : Int32) else 0)), .val (.int (Int32.ofNat nf)), .val (.int (Int32.ofNat nt)), .unset, .unset, .unset, .unset, .unset, .unset, .unset, .unset] [(.int p0)]))
  refine own_go (fun t_ k_ => XS.bipush A0.here hx rfl (hb hby at_71) k_) ?_
  show own_Go _ _ _ _ (T0.setTop (mkF m 73 #[.val (.int p0), .val (.int p1), .val (.long q2), .second, .val (.int p3), .val (.int (Int32.ofNat off)), .val (.int (Int32.ofNat nb)), .val (.int (if neg = true then (1 : Int32) else 0)), .val (.int (Int32.ofNat ni)), .val (.int (if pt = true then (1 : Int32) else 0)), .val (.int (Int32.ofNat nf)), .val (.int (Int32.ofNat nt)), .unset, .unset, .unset, .unset, .unset, .unset, .unset, .unset] [(.int (12 : Int32)), (.int p0)]))
  refine own_go (fun t_ k_ => XS.iushr A0.here hx rfl (hb hby at_73) rfl k_) ?_
  show own_Go _ _ _ _ (T0.setTop (mkF m 74 #[.val (.int p0), .val (.int p1), .val (.long q2), .second, .val (.int p3), .val (.int (Int32.ofNat off)), .val (.int (Int32.ofNat nb)), .val (.int (if neg = true then (1 : Int32) else 0)), .val (.int (Int32.ofNat ni)), .val (.int (if pt = true then (1 : Int32) else 0)), .val (.int (Int32.ofNat nf)), .val (.int (Int32.ofNat nt)), .unset, .unset, .unset, .unset, .unset, .unset, .unset, .unset] [(.int ((p0.toUInt32 >>> ((12 : Int32) &&& 31).toUInt32).toInt32))]))
  refine own_go (fun t_ k_ => XS.iconst A0.here hx rfl (hb hby at_74) k_) ?_
  show own_Go _ _ _ _ (T0.setTop (mkF m 75 #[.val (.int p0), .val (.int p1), .val (.long q2), .second, .val (.int p3), .val (.int (Int32.ofNat off)), .val (.int (Int32.ofNat nb)), .val (.int (if neg = true then (1 : Int32) else 0)), .val (.int (Int32.ofNat ni)), .val (.int (if pt = true then (1 : Int32) else 0)), .val (.int (Int32.ofNat nf)), .val (.int (Int32.ofNat nt)), .unset, .unset, .unset, .unset, .unset, .unset, .unset, .unset] [(.int (1 : Int32)), (.int ((p0.toUInt32 >>> ((12 : Int32) &&& 31).toUInt32).toInt32))]))
  refine own_go (fun t_ k_ => XS.iand A0.here hx rfl (hb hby at_75) rfl k_) ?_
  show own_Go _ _ _ _ (T0.setTop (mkF m 76 #[.val (.int p0), .val (.int p1), .val (.long q2), .second, .val (.int p3), .val (.int (Int32.ofNat off)), .val (.int (Int32.ofNat nb)), .val (.int (if neg = true then (1 : Int32) else 0)), .val (.int (Int32.ofNat ni)), .val (.int (if pt = true then (1 : Int32) else 0)), .val (.int (Int32.ofNat nf)), .val (.int (Int32.ofNat nt)), .unset, .unset, .unset, .unset, .unset, .unset, .unset, .unset] [(.int (((p0.toUInt32 >>> ((12 : Int32) &&& 31).toUInt32).toInt32) &&& (1 : Int32)))]))
  have mg3 : ∀ t_, Steps p.tables e below (T0.setTop (mkF m 86 #[.val (.int p0), .val (.int p1), .val (.long q2), .second, .val (.int p3), .val (.int (Int32.ofNat off)), .val (.int (Int32.ofNat nb)), .val (.int (if neg = true then (1 : Int32) else 0)), .val (.int (Int32.ofNat ni)), .val (.int (if pt = true then (1 : Int32) else 0)), .val (.int (Int32.ofNat nf)), .val (.int (Int32.ofNat nt)), .unset, .unset, .unset, .unset, .unset, .unset, .unset, .unset] [(.int (if (((p0.toUInt32 >>> ((12 : Int32) &&& 31).toUInt32).toInt32) &&& (1 : Int32)) = (0 : Int32) then (46 : Int32) else (51 : Int32)))])) t_ → Steps p.tables e below (T0.setTop (mkF m 76 #[.val (.int p0), .val (.int p1), .val (.long q2), .second, .val (.int p3), .val (.int (Int32.ofNat off)), .val (.int (Int32.ofNat nb)), .val (.int (if neg = true then (1 : Int32) else 0)), .val (.int (Int32.ofNat ni)), .val (.int (if pt = true then (1 : Int32) else 0)), .val (.int (Int32.ofNat nf)), .val (.int (Int32.ofNat nt)), .unset, .unset, .unset, .unset, .unset, .unset, .unset, .unset] [(.int (((p0.toUInt32 >>> ((12 : Int32) &&& 31).toUInt32).toInt32) &&& (1 : Int32)))])) t_ := by
    intro t_ k_
    by_cases hm76_0 : (((p0.toUInt32 >>> ((12 : Int32) &&& 31).toUInt32).toInt32) &&& (1 : Int32)) = (0 : Int32)
    ·
      simp only [if_pos hm76_0] at k_
      exact (XS.ifNo A0.here hx rfl (hb hby at_76) rfl ((if0 _ _).trans (teq hm76_0).2) (XS.bipush A0.here hx rfl (hb hby at_79) (XS.goto A0.here hx rfl (pc0 := 81) (pc' := 86) rfl (hb hby at_81) (by decide) (by decide) k_)))
    ·
      simp only [if_neg hm76_0] at k_
      exact (XS.ifYes A0.here hx rfl (pc0 := 76) (pc' := 84) rfl (hb hby at_76) rfl ((if0 _ _).trans (feq hm76_0).2) (by decide) (by decide) (XS.bipush A0.here hx rfl (hb hby at_84) k_))
  refine own_go mg3 ?_
  show own_Go _ _ _ _ (T0.setTop (mkF m 86 #[.val (.int p0), .val (.int p1), .val (.long q2), .second, .val (.int p3), .val (.int (Int32.ofNat off)), .val (.int (Int32.ofNat nb)), .val (.int (if neg = true then (1 : Int32) else 0)), .val (.int (Int32.ofNat ni)), .val (.int (if pt = true then (1 : Int32) else 0)), .val (.int (Int32.ofNat nf)), .val (.int (Int32.ofNat nt)), .unset, .unset, .unset, .unset, .unset, .unset, .unset, .unset] [(.int (if (((p0.toUInt32 >>> ((12 : Int32) &&& 31).toUInt32).toInt32) &&& (1 : Int32)) = (0 : Int32) then (46 : Int32) else (51 : Int32)))]))
  obtain ⟨bg, hbg, ebg⟩ := own_bg ((((p0.toUInt32 >>> ((12 : Int32) &&& 31).toUInt32).toInt32) &&& (1 : Int32)) = (0 : Int32))
  rw [ebg]
  show own_Go _ _ _ _ (T0.setTop (mkF m 86 #[.val (.int p0), .val (.int p1), .val (.long q2), .second, .val (.int p3), .val (.int (Int32.ofNat off)), .val (.int (Int32.ofNat nb)), .val (.int (if neg = true then (1 : Int32) else 0)), .val (.int (Int32.ofNat ni)), .val (.int (if pt = true then (1 : Int32) else 0)), .val (.int (Int32.ofNat nf)), .val (.int (Int32.ofNat nt)), .unset, .unset, .unset, .unset, .unset, .unset, .unset, .unset] [(.int bg)]))
  refine own_go (fun t_ k_ => XS.istore A0.here hx rfl (hb hby at_86) rfl (l' := #[.val (.int p0), .val (.int p1), .val (.long q2), .second, .val (.int p3), .val (.int (Int32.ofNat off)), .val (.int (Int32.ofNat nb)), .val (.int (if neg = true then (1 : Int32) else 0)), .val (.int (Int32.ofNat ni)), .val (.int (if pt = true then (1 : Int32) else 0)), .val (.int (Int32.ofNat nf)), .val (.int (Int32.ofNat nt)), .val (.int bg), .unset, .unset, .unset, .unset, .unset, .unset, .unset]) rfl k_) ?_
  show own_Go _ _ _ _ (T0.setTop (mkF m 88 #[.val (.int p0), .val (.int p1), .val (.long q2), .second, .val (.int p3), .val (.int (Int32.ofNat off)), .val (.int (Int32.ofNat nb)), .val (.int (if neg = true then (1 : Int32) else 0)), .val (.int (Int32.ofNat ni)), .val (.int (if pt = true then (1 : Int32) else 0)), .val (.int (Int32.ofNat nf)), .val (.int (Int32.ofNat nt)), .val (.int bg), .unset, .unset, .unset, .unset, .unset, .unset, .unset] []))
  refine own_go (fun t_ k_ => XS.bipush A0.here hx rfl (hb hby at_88) k_) ?_
  show own_Go _ _ _ _ (T0.setTop (mkF m 90 #[.val (.int p0), .val (.int p1), .val (.long q2), .second, .val (.int p3), .val (.int (Int32.ofNat off)), .val (.int (Int32.ofNat nb)), .val (.int (if neg = true then (1 : Int32) else 0)), .val (.int (Int32.ofNat ni)), .val (.int (if pt = true then (1 : Int32) else 0)), .val (.int (Int32.ofNat nf)), .val (.int (Int32.ofNat nt)), .val (.int bg), .unset, .unset, .unset, .unset, .unset, .unset, .unset] [(.int (22 : Int32))]))
  refine own_newP A0 hx hZ (hw _ (List.mem_of_getElem? (i := 0) rfl)) rfl rfl (hb hby at_90) rfl (by decide) 22 (by decide) (by decide) (by decide) (by decide) (fun T4 h6 b7 ha_b7 A5 E8 V9 R10 => ?_)
  have g_b7 : n0 ≤ b7 := by rw [ha_b7]; exact Z0
  have Y11 : 0 ≤ h6.size := Nat.le_trans (Nat.zero_le _) E8.1
  have O12 : Old Z n0 h6 := O0.ext E8
  have Z13 : n0 ≤ h6.size := Nat.le_trans Z0 E8.1
  show own_Go _ _ _ _ (T4.setTop (mkF m 92 #[.val (.int p0), .val (.int p1), .val (.long q2), .second, .val (.int p3), .val (.int (Int32.ofNat off)), .val (.int (Int32.ofNat nb)), .val (.int (if neg = true then (1 : Int32) else 0)), .val (.int (Int32.ofNat ni)), .val (.int (if pt = true then (1 : Int32) else 0)), .val (.int (Int32.ofNat nf)), .val (.int (Int32.ofNat nt)), .val (.int bg), .unset, .unset, .unset, .unset, .unset, .unset, .unset] [(.ref b7)]))
  refine own_go (fun t_ k_ => XS.dup A5.here hx rfl (hb hby at_92) rfl rfl k_) ?_
  show own_Go _ _ _ _ (T4.setTop (mkF m 93 #[.val (.int p0), .val (.int p1), .val (.long q2), .second, .val (.int p3), .val (.int (Int32.ofNat off)), .val (.int (Int32.ofNat nb)), .val (.int (if neg = true then (1 : Int32) else 0)), .val (.int (Int32.ofNat ni)), .val (.int (if pt = true then (1 : Int32) else 0)), .val (.int (Int32.ofNat nf)), .val (.int (Int32.ofNat nt)), .val (.int bg), .unset, .unset, .unset, .unset, .unset, .unset, .unset] [(.ref b7), (.ref b7)]))
  refine own_go (fun t_ k_ => XS.iconst A5.here hx rfl (hb hby at_93) k_) ?_
  show own_Go _ _ _ _ (T4.setTop (mkF m 94 #[.val (.int p0), .val (.int p1), .val (.long q2), .second, .val (.int p3), .val (.int (Int32.ofNat off)), .val (.int (Int32.ofNat nb)), .val (.int (if neg = true then (1 : Int32) else 0)), .val (.int (Int32.ofNat ni)), .val (.int (if pt = true then (1 : Int32) else 0)), .val (.int (Int32.ofNat nf)), .val (.int (Int32.ofNat nt)), .val (.int bg), .unset, .unset, .unset, .unset, .unset, .unset, .unset] [(.int (0 : Int32)), (.ref b7), (.ref b7)]))
  refine own_go (fun t_ k_ => XS.iload A5.here hx rfl (hb hby at_94) rfl k_) ?_
  show own_Go _ _ _ _ (T4.setTop (mkF m 96 #[.val (.int p0), .val (.int p1), .val (.long q2), .second, .val (.int p3), .val (.int (Int32.ofNat off)), .val (.int (Int32.ofNat nb)), .val (.int (if neg = true then (1 : Int32) else 0)), .val (.int (Int32.ofNat ni)), .val (.int (if pt = true then (1 : Int32) else 0)), .val (.int (Int32.ofNat nf)), .val (.int (Int32.ofNat nt)), .val (.int bg), .unset, .unset, .unset, .unset, .unset, .unset, .unset] [(.int bg), (.int (0 : Int32)), (.ref b7), (.ref b7)]))
  refine own_stB A5 hx hZ V9 ⟨by decide, by decide⟩ g_b7 rfl rfl (hb hby at_96) (fun T14 h16 A15 W17 V18 => ?_)
  have Y19 : 0 ≤ h16.size := Nat.le_trans Y11 (Nat.le_of_eq (Wr.size W17).symm)
  have O20 : Old Z n0 h16 := O12.wr W17 g_b7
  have Z21 : n0 ≤ h16.size := Nat.le_trans Z13 (Nat.le_of_eq (Wr.size W17).symm)
  have V22 : own_Arr Z h16 b7 .byte (22 : Int32) (fun i => if i = (0 : Int32) then nar .byte bg else (fun _ => 0) i) := V18
  show own_Go _ _ _ _ (T14.setTop (mkF m 97 #[.val (.int p0), .val (.int p1), .val (.long q2), .second, .val (.int p3), .val (.int (Int32.ofNat off)), .val (.int (Int32.ofNat nb)), .val (.int (if neg = true then (1 : Int32) else 0)), .val (.int (Int32.ofNat ni)), .val (.int (if pt = true then (1 : Int32) else 0)), .val (.int (Int32.ofNat nf)), .val (.int (Int32.ofNat nt)), .val (.int bg), .unset, .unset, .unset, .unset, .unset, .unset, .unset] [(.ref b7)]))
  refine own_go (fun t_ k_ => XS.dup A15.here hx rfl (hb hby at_97) rfl rfl k_) ?_
  show own_Go _ _ _ _ (T14.setTop (mkF m 98 #[.val (.int p0), .val (.int p1), .val (.long q2), .second, .val (.int p3), .val (.int (Int32.ofNat off)), .val (.int (Int32.ofNat nb)), .val (.int (if neg = true then (1 : Int32) else 0)), .val (.int (Int32.ofNat ni)), .val (.int (if pt = true then (1 : Int32) else 0)), .val (.int (Int32.ofNat nf)), .val (.int (Int32.ofNat nt)), .val (.int bg), .unset, .unset, .unset, .unset, .unset, .unset, .unset] [(.ref b7), (.ref b7)]))
  refine own_go (fun t_ k_ => XS.iconst A15.here hx rfl (hb hby at_98) k_) ?_
  show own_Go _ _ _ _ (T14.setTop (mkF m 99 #[.val (.int p0), .val (.int p1), .val (.long q2), .second, .val (.int p3), .val (.int (Int32.ofNat off)), .val (.int (Int32.ofNat nb)), .val (.int (if neg = true then (1 : Int32) else 0)), .val (.int (Int32.ofNat ni)), .val (.int (if pt = true then (1 : Int32) else 0)), .val (.int (Int32.ofNat nf)), .val (.int (Int32.ofNat nt)), .val (.int bg), .unset, .unset, .unset, .unset, .unset, .unset, .unset] [(.int (1 : Int32)), (.ref b7), (.ref b7)]))
  refine own_go (fun t_ k_ => XS.iload A15.here hx rfl (hb hby at_99) rfl k_) ?_
  show own_Go _ _ _ _ (T14.setTop (mkF m 101 #[.val (.int p0), .val (.int p1), .val (.long q2), .second, .val (.int p3), .val (.int (Int32.ofNat off)), .val (.int (Int32.ofNat nb)), .val (.int (if neg = true then (1 : Int32) else 0)), .val (.int (Int32.ofNat ni)), .val (.int (if pt = true then (1 : Int32) else 0)), .val (.int (Int32.ofNat nf)), .val (.int (Int32.ofNat nt)), .val (.int bg), .unset, .unset, .unset, .unset, .unset, .unset, .unset] [(.int bg), (.int (1 : Int32)), (.ref b7), (.ref b7)]))
  refine own_stB A15 hx hZ V22 ⟨by decide, by decide⟩ g_b7 rfl rfl (hb hby at_101) (fun T23 h25 A24 W26 V27 => ?_)
  have Y28 : 0 ≤ h25.size := Nat.le_trans Y19 (Nat.le_of_eq (Wr.size W26).symm)
  have O29 : Old Z n0 h25 := O20.wr W26 g_b7
  have Z30 : n0 ≤ h25.size := Nat.le_trans Z21 (Nat.le_of_eq (Wr.size W26).symm)
  have V31 : own_Arr Z h25 b7 .byte (22 : Int32) (fun i => if i = (1 : Int32) then nar .byte bg else (fun i => if i = (0 : Int32) then nar .byte bg else (fun _ => 0) i) i) := V27
  show own_Go _ _ _ _ (T23.setTop (mkF m 102 #[.val (.int p0), .val (.int p1), .val (.long q2), .second, .val (.int p3), .val (.int (Int32.ofNat off)), .val (.int (Int32.ofNat nb)), .val (.int (if neg = true then (1 : Int32) else 0)), .val (.int (Int32.ofNat ni)), .val (.int (if pt = true then (1 : Int32) else 0)), .val (.int (Int32.ofNat nf)), .val (.int (Int32.ofNat nt)), .val (.int bg), .unset, .unset, .unset, .unset, .unset, .unset, .unset] [(.ref b7)]))
  refine own_go (fun t_ k_ => XS.dup A24.here hx rfl (hb hby at_102) rfl rfl k_) ?_
  show own_Go _ _ _ _ (T23.setTop (mkF m 103 #[.val (.int p0), .val (.int p1), .val (.long q2), .second, .val (.int p3), .val (.int (Int32.ofNat off)), .val (.int (Int32.ofNat nb)), .val (.int (if neg = true then (1 : Int32) else 0)), .val (.int (Int32.ofNat ni)), .val (.int (if pt = true then (1 : Int32) else 0)), .val (.int (Int32.ofNat nf)), .val (.int (Int32.ofNat nt)), .val (.int bg), .unset, .unset, .unset, .unset, .unset, .unset, .unset] [(.ref b7), (.ref b7)]))
  refine own_go (fun t_ k_ => XS.iconst A24.here hx rfl (hb hby at_103) k_) ?_
  show own_Go _ _ _ _ (T23.setTop (mkF m 104 #[.val (.int p0), .val (.int p1), .val (.long q2), .second, .val (.int p3), .val (.int (Int32.ofNat off)), .val (.int (Int32.ofNat nb)), .val (.int (if neg = true then (1 : Int32) else 0)), .val (.int (Int32.ofNat ni)), .val (.int (if pt = true then (1 : Int32) else 0)), .val (.int (Int32.ofNat nf)), .val (.int (Int32.ofNat nt)), .val (.int bg), .unset, .unset, .unset, .unset, .unset, .unset, .unset] [(.int (2 : Int32)), (.ref b7), (.ref b7)]))
  refine own_go (fun t_ k_ => XS.iload A24.here hx rfl (hb hby at_104) rfl k_) ?_
  show own_Go _ _ _ _ (T23.setTop (mkF m 106 #[.val (.int p0), .val (.int p1), .val (.long q2), .second, .val (.int p3), .val (.int (Int32.ofNat off)), .val (.int (Int32.ofNat nb)), .val (.int (if neg = true then (1 : Int32) else 0)), .val (.int (Int32.ofNat ni)), .val (.int (if pt = true then (1 : Int32) else 0)), .val (.int (Int32.ofNat nf)), .val (.int (Int32.ofNat nt)), .val (.int bg), .unset, .unset, .unset, .unset, .unset, .unset, .unset] [(.int bg), (.int (2 : Int32)), (.ref b7), (.ref b7)]))
  refine own_stB A24 hx hZ V31 ⟨by decide, by decide⟩ g_b7 rfl rfl (hb hby at_106) (fun T32 h34 A33 W35 V36 => ?_)
  have Y37 : 0 ≤ h34.size := Nat.le_trans Y28 (Nat.le_of_eq (Wr.size W35).symm)
  have O38 : Old Z n0 h34 := O29.wr W35 g_b7
  have Z39 : n0 ≤ h34.size := Nat.le_trans Z30 (Nat.le_of_eq (Wr.size W35).symm)
  have V40 : own_Arr Z h34 b7 .byte (22 : Int32) (fun i => if i = (2 : Int32) then nar .byte bg else (fun i => if i = (1 : Int32) then nar .byte bg else (fun i => if i = (0 : Int32) then nar .byte bg else (fun _ => 0) i) i) i) := V36
  show own_Go _ _ _ _ (T32.setTop (mkF m 107 #[.val (.int p0), .val (.int p1), .val (.long q2), .second, .val (.int p3), .val (.int (Int32.ofNat off)), .val (.int (Int32.ofNat nb)), .val (.int (if neg = true then (1 : Int32) else 0)), .val (.int (Int32.ofNat ni)), .val (.int (if pt = true then (1 : Int32) else 0)), .val (.int (Int32.ofNat nf)), .val (.int (Int32.ofNat nt)), .val (.int bg), .unset, .unset, .unset, .unset, .unset, .unset, .unset] [(.ref b7)]))
  refine own_go (fun t_ k_ => XS.dup A33.here hx rfl (hb hby at_107) rfl rfl k_) ?_
  show own_Go _ _ _ _ (T32.setTop (mkF m 108 #[.val (.int p0), .val (.int p1), .val (.long q2), .second, .val (.int p3), .val (.int (Int32.ofNat off)), .val (.int (Int32.ofNat nb)), .val (.int (if neg = true then (1 : Int32) else 0)), .val (.int (Int32.ofNat ni)), .val (.int (if pt = true then (1 : Int32) else 0)), .val (.int (Int32.ofNat nf)), .val (.int (Int32.ofNat nt)), .val (.int bg), .unset, .unset, .unset, .unset, .unset, .unset, .unset] [(.ref b7), (.ref b7)]))
  refine own_go (fun t_ k_ => XS.iconst A33.here hx rfl (hb hby at_108) k_) ?_
  show own_Go _ _ _ _ (T32.setTop (mkF m 109 #[.val (.int p0), .val (.int p1), .val (.long q2), .second, .val (.int p3), .val (.int (Int32.ofNat off)), .val (.int (Int32.ofNat nb)), .val (.int (if neg = true then (1 : Int32) else 0)), .val (.int (Int32.ofNat ni)), .val (.int (if pt = true then (1 : Int32) else 0)), .val (.int (Int32.ofNat nf)), .val (.int (Int32.ofNat nt)), .val (.int bg), .unset, .unset, .unset, .unset, .unset, .unset, .unset] [(.int (3 : Int32)), (.ref b7), (.ref b7)]))
  refine own_go (fun t_ k_ => XS.iload A33.here hx rfl (hb hby at_109) rfl k_) ?_
  show own_Go _ _ _ _ (T32.setTop (mkF m 111 #[.val (.int p0), .val (.int p1), .val (.long q2), .second, .val (.int p3), .val (.int (Int32.ofNat off)), .val (.int (Int32.ofNat nb)), .val (.int (if neg = true then (1 : Int32) else 0)), .val (.int (Int32.ofNat ni)), .val (.int (if pt = true then (1 : Int32) else 0)), .val (.int (Int32.ofNat nf)), .val (.int (Int32.ofNat nt)), .val (.int bg), .unset, .unset, .unset, .unset, .unset, .unset, .unset] [(.int bg), (.int (3 : Int32)), (.ref b7), (.ref b7)]))
  refine own_stB A33 hx hZ V40 ⟨by decide, by decide⟩ g_b7 rfl rfl (hb hby at_111) (fun T41 h43 A42 W44 V45 => ?_)
  have Y46 : 0 ≤ h43.size := Nat.le_trans Y37 (Nat.le_of_eq (Wr.size W44).symm)
  have O47 : Old Z n0 h43 := O38.wr W44 g_b7
  have Z48 : n0 ≤ h43.size := Nat.le_trans Z39 (Nat.le_of_eq (Wr.size W44).symm)
  have V49 : own_Arr Z h43 b7 .byte (22 : Int32) (fun i => if i = (3 : Int32) then nar .byte bg else (fun i => if i = (2 : Int32) then nar .byte bg else (fun i => if i = (1 : Int32) then nar .byte bg else (fun i => if i = (0 : Int32) then nar .byte bg else (fun _ => 0) i) i) i) i) := V45
  show own_Go _ _ _ _ (T41.setTop (mkF m 112 #[.val (.int p0), .val (.int p1), .val (.long q2), .second, .val (.int p3), .val (.int (Int32.ofNat off)), .val (.int (Int32.ofNat nb)), .val (.int (if neg = true then (1 : Int32) else 0)), .val (.int (Int32.ofNat ni)), .val (.int (if pt = true then (1 : Int32) else 0)), .val (.int (Int32.ofNat nf)), .val (.int (Int32.ofNat nt)), .val (.int bg), .unset, .unset, .unset, .unset, .unset, .unset, .unset] [(.ref b7)]))
  refine own_go (fun t_ k_ => XS.dup A42.here hx rfl (hb hby at_112) rfl rfl k_) ?_
  show own_Go _ _ _ _ (T41.setTop (mkF m 113 #[.val (.int p0), .val (.int p1), .val (.long q2), .second, .val (.int p3), .val (.int (Int32.ofNat off)), .val (.int (Int32.ofNat nb)), .val (.int (if neg = true then (1 : Int32) else 0)), .val (.int (Int32.ofNat ni)), .val (.int (if pt = true then (1 : Int32) else 0)), .val (.int (Int32.ofNat nf)), .val (.int (Int32.ofNat nt)), .val (.int bg), .unset, .unset, .unset, .unset, .unset, .unset, .unset] [(.ref b7), (.ref b7)]))
  refine own_go (fun t_ k_ => XS.iconst A42.here hx rfl (hb hby at_113) k_) ?_
  show own_Go _ _ _ _ (T41.setTop (mkF m 114 #[.val (.int p0), .val (.int p1), .val (.long q2), .second, .val (.int p3), .val (.int (Int32.ofNat off)), .val (.int (Int32.ofNat nb)), .val (.int (if neg = true then (1 : Int32) else 0)), .val (.int (Int32.ofNat ni)), .val (.int (if pt = true then (1 : Int32) else 0)), .val (.int (Int32.ofNat nf)), .val (.int (Int32.ofNat nt)), .val (.int bg), .unset, .unset, .unset, .unset, .unset, .unset, .unset] [(.int (4 : Int32)), (.ref b7), (.ref b7)]))
  refine own_go (fun t_ k_ => XS.iload A42.here hx rfl (hb hby at_114) rfl k_) ?_
  show own_Go _ _ _ _ (T41.setTop (mkF m 116 #[.val (.int p0), .val (.int p1), .val (.long q2), .second, .val (.int p3), .val (.int (Int32.ofNat off)), .val (.int (Int32.ofNat nb)), .val (.int (if neg = true then (1 : Int32) else 0)), .val (.int (Int32.ofNat ni)), .val (.int (if pt = true then (1 : Int32) else 0)), .val (.int (Int32.ofNat nf)), .val (.int (Int32.ofNat nt)), .val (.int bg), .unset, .unset, .unset, .unset, .unset, .unset, .unset] [(.int bg), (.int (4 : Int32)), (.ref b7), (.ref b7)]))
  refine own_stB A42 hx hZ V49 ⟨by decide, by decide⟩ g_b7 rfl rfl (hb hby at_116) (fun T50 h52 A51 W53 V54 => ?_)
  have Y55 : 0 ≤ h52.size := Nat.le_trans Y46 (Nat.le_of_eq (Wr.size W53).symm)
  have O56 : Old Z n0 h52 := O47.wr W53 g_b7
  have Z57 : n0 ≤ h52.size := Nat.le_trans Z48 (Nat.le_of_eq (Wr.size W53).symm)
  have V58 : own_Arr Z h52 b7 .byte (22 : Int32) (fun i => if i = (4 : Int32) then nar .byte bg else (fun i => if i = (3 : Int32) then nar .byte bg else (fun i => if i = (2 : Int32) then nar .byte bg else (fun i => if i = (1 : Int32) then nar .byte bg else (fun i => if i = (0 : Int32) then nar .byte bg else (fun _ => 0) i) i) i) i) i) := V54
  show own_Go _ _ _ _ (T50.setTop (mkF m 117 #[.val (.int p0), .val (.int p1), .val (.long q2), .second, .val (.int p3), .val (.int (Int32.ofNat off)), .val (.int (Int32.ofNat nb)), .val (.int (if neg = true then (1 : Int32) else 0)), .val (.int (Int32.ofNat ni)), .val (.int (if pt = true then (1 : Int32) else 0)), .val (.int (Int32.ofNat nf)), .val (.int (Int32.ofNat nt)), .val (.int bg), .unset, .unset, .unset, .unset, .unset, .unset, .unset] [(.ref b7)]))
  refine own_go (fun t_ k_ => XS.dup A51.here hx rfl (hb hby at_117) rfl rfl k_) ?_
  show own_Go _ _ _ _ (T50.setTop (mkF m 118 #[.val (.int p0), .val (.int p1), .val (.long q2), .second, .val (.int p3), .val (.int (Int32.ofNat off)), .val (.int (Int32.ofNat nb)), .val (.int (if neg = true then (1 : Int32) else 0)), .val (.int (Int32.ofNat ni)), .val (.int (if pt = true then (1 : Int32) else 0)), .val (.int (Int32.ofNat nf)), .val (.int (Int32.ofNat nt)), .val (.int bg), .unset, .unset, .unset, .unset, .unset, .unset, .unset] [(.ref b7), (.ref b7)]))
  refine own_go (fun t_ k_ => XS.iconst A51.here hx rfl (hb hby at_118) k_) ?_
  show own_Go _ _ _ _ (T50.setTop (mkF m 119 #[.val (.int p0), .val (.int p1), .val (.long q2), .second, .val (.int p3), .val (.int (Int32.ofNat off)), .val (.int (Int32.ofNat nb)), .val (.int (if neg = true then (1 : Int32) else 0)), .val (.int (Int32.ofNat ni)), .val (.int (if pt = true then (1 : Int32) else 0)), .val (.int (Int32.ofNat nf)), .val (.int (Int32.ofNat nt)), .val (.int bg), .unset, .unset, .unset, .unset, .unset, .unset, .unset] [(.int (5 : Int32)), (.ref b7), (.ref b7)]))
  refine own_go (fun t_ k_ => XS.iload A51.here hx rfl (hb hby at_119) rfl k_) ?_
  show own_Go _ _ _ _ (T50.setTop (mkF m 121 #[.val (.int p0), .val (.int p1), .val (.long q2), .second, .val (.int p3), .val (.int (Int32.ofNat off)), .val (.int (Int32.ofNat nb)), .val (.int (if neg = true then (1 : Int32) else 0)), .val (.int (Int32.ofNat ni)), .val (.int (if pt = true then (1 : Int32) else 0)), .val (.int (Int32.ofNat nf)), .val (.int (Int32.ofNat nt)), .val (.int bg), .unset, .unset, .unset, .unset, .unset, .unset, .unset] [(.int bg), (.int (5 : Int32)), (.ref b7), (.ref b7)]))
  refine own_stB A51 hx hZ V58 ⟨by decide, by decide⟩ g_b7 rfl rfl (hb hby at_121) (fun T59 h61 A60 W62 V63 => ?_)
  have Y64 : 0 ≤ h61.size := Nat.le_trans Y55 (Nat.le_of_eq (Wr.size W62).symm)
  have O65 : Old Z n0 h61 := O56.wr W62 g_b7
  have Z66 : n0 ≤ h61.size := Nat.le_trans Z57 (Nat.le_of_eq (Wr.size W62).symm)
  have V67 : own_Arr Z h61 b7 .byte (22 : Int32) (fun i => if i = (5 : Int32) then nar .byte bg else (fun i => if i = (4 : Int32) then nar .byte bg else (fun i => if i = (3 : Int32) then nar .byte bg else (fun i => if i = (2 : Int32) then nar .byte bg else (fun i => if i = (1 : Int32) then nar .byte bg else (fun i => if i = (0 : Int32) then nar .byte bg else (fun _ => 0) i) i) i) i) i) i) := V63
  show own_Go _ _ _ _ (T59.setTop (mkF m 122 #[.val (.int p0), .val (.int p1), .val (.long q2), .second, .val (.int p3), .val (.int (Int32.ofNat off)), .val (.int (Int32.ofNat nb)), .val (.int (if neg = true then (1 : Int32) else 0)), .val (.int (Int32.ofNat ni)), .val (.int (if pt = true then (1 : Int32) else 0)), .val (.int (Int32.ofNat nf)), .val (.int (Int32.ofNat nt)), .val (.int bg), .unset, .unset, .unset, .unset, .unset, .unset, .unset] [(.ref b7)]))
  refine own_go (fun t_ k_ => XS.dup A60.here hx rfl (hb hby at_122) rfl rfl k_) ?_
  show own_Go _ _ _ _ (T59.setTop (mkF m 123 #[.val (.int p0), .val (.int p1), .val (.long q2), .second, .val (.int p3), .val (.int (Int32.ofNat off)), .val (.int (Int32.ofNat nb)), .val (.int (if neg = true then (1 : Int32) else 0)), .val (.int (Int32.ofNat ni)), .val (.int (if pt = true then (1 : Int32) else 0)), .val (.int (Int32.ofNat nf)), .val (.int (Int32.ofNat nt)), .val (.int bg), .unset, .unset, .unset, .unset, .unset, .unset, .unset] [(.ref b7), (.ref b7)]))
  refine own_go (fun t_ k_ => XS.bipush A60.here hx rfl (hb hby at_123) k_) ?_
  show own_Go _ _ _ _ (T59.setTop (mkF m 125 #[.val (.int p0), .val (.int p1), .val (.long q2), .second, .val (.int p3), .val (.int (Int32.ofNat off)), .val (.int (Int32.ofNat nb)), .val (.int (if neg = true then (1 : Int32) else 0)), .val (.int (Int32.ofNat ni)), .val (.int (if pt = true then (1 : Int32) else 0)), .val (.int (Int32.ofNat nf)), .val (.int (Int32.ofNat nt)), .val (.int bg), .unset, .unset, .unset, .unset, .unset, .unset, .unset] [(.int (6 : Int32)), (.ref b7), (.ref b7)]))
  refine own_go (fun t_ k_ => XS.iload A60.here hx rfl (hb hby at_125) rfl k_) ?_
  show own_Go _ _ _ _ (T59.setTop (mkF m 127 #[.val (.int p0), .val (.int p1), .val (.long q2), .second, .val (.int p3), .val (.int (Int32.ofNat off)), .val (.int (Int32.ofNat nb)), .val (.int (if neg = true then (1 : Int32) else 0)), .val (.int (Int32.ofNat ni)), .val (.int (if pt = true then (1 : Int32) else 0)), .val (.int (Int32.ofNat nf)), .val (.int (Int32.ofNat nt)), .val (.int bg), .unset, .unset, .unset, .unset, .unset, .unset, .unset] [(.int bg), (.int (6 : Int32)), (.ref b7), (.ref b7)]))
  refine own_stB A60 hx hZ V67 ⟨by decide, by decide⟩ g_b7 rfl rfl (hb hby at_127) (fun T68 h70 A69 W71 V72 => ?_)
  have Y73 : 0 ≤ h70.size := Nat.le_trans Y64 (Nat.le_of_eq (Wr.size W71).symm)
  have O74 : Old Z n0 h70 := O65.wr W71 g_b7
  have Z75 : n0 ≤ h70.size := Nat.le_trans Z66 (Nat.le_of_eq (Wr.size W71).symm)
  have V76 : own_Arr Z h70 b7 .byte (22 : Int32) (fun i => if i = (6 : Int32) then nar .byte bg else (fun i => if i = (5 : Int32) then nar .byte bg else (fun i => if i = (4 : Int32) then nar .byte bg else (fun i => if i = (3 : Int32) then nar .byte bg else (fun i => if i = (2 : Int32) then nar .byte bg else (fun i => if i = (1 : Int32) then nar .byte bg else (fun i => if i = (0 : Int32) then nar .byte bg else (fun _ => 0) i) i) i) i) i) i) i) := V72
  show own_Go _ _ _ _ (T68.setTop (mkF m 128 #[.val (.int p0), .val (.int p1), .val (.long q2), .second, .val (.int p3), .val (.int (Int32.ofNat off)), .val (.int (Int32.ofNat nb)), .val (.int (if neg = true then (1 : Int32) else 0)), .val (.int (Int32.ofNat ni)), .val (.int (if pt = true then (1 : Int32) else 0)), .val (.int (Int32.ofNat nf)), .val (.int (Int32.ofNat nt)), .val (.int bg), .unset, .unset, .unset, .unset, .unset, .unset, .unset] [(.ref b7)]))
  refine own_go (fun t_ k_ => XS.dup A69.here hx rfl (hb hby at_128) rfl rfl k_) ?_
  show own_Go _ _ _ _ (T68.setTop (mkF m 129 #[.val (.int p0), .val (.int p1), .val (.long q2), .second, .val (.int p3), .val (.int (Int32.ofNat off)), .val (.int (Int32.ofNat nb)), .val (.int (if neg = true then (1 : Int32) else 0)), .val (.int (Int32.ofNat ni)), .val (.int (if pt = true then (1 : Int32) else 0)), .val (.int (Int32.ofNat nf)), .val (.int (Int32.ofNat nt)), .val (.int bg), .unset, .unset, .unset, .unset, .unset, .unset, .unset] [(.ref b7), (.ref b7)]))
  refine own_go (fun t_ k_ => XS.bipush A69.here hx rfl (hb hby at_129) k_) ?_
  show own_Go _ _ _ _ (T68.setTop (mkF m 131 #[.val (.int p0), .val (.int p1), .val (.long q2), .second, .val (.int p3), .val (.int (Int32.ofNat off)), .val (.int (Int32.ofNat nb)), .val (.int (if neg = true then (1 : Int32) else 0)), .val (.int (Int32.ofNat ni)), .val (.int (if pt = true then (1 : Int32) else 0)), .val (.int (Int32.ofNat nf)), .val (.int (Int32.ofNat nt)), .val (.int bg), .unset, .unset, .unset, .unset, .unset, .unset, .unset] [(.int (7 : Int32)), (.ref b7), (.ref b7)]))
  refine own_go (fun t_ k_ => XS.iload A69.here hx rfl (hb hby at_131) rfl k_) ?_
  show own_Go _ _ _ _ (T68.setTop (mkF m 133 #[.val (.int p0), .val (.int p1), .val (.long q2), .second, .val (.int p3), .val (.int (Int32.ofNat off)), .val (.int (Int32.ofNat nb)), .val (.int (if neg = true then (1 : Int32) else 0)), .val (.int (Int32.ofNat ni)), .val (.int (if pt = true then (1 : Int32) else 0)), .val (.int (Int32.ofNat nf)), .val (.int (Int32.ofNat nt)), .val (.int bg), .unset, .unset, .unset, .unset, .unset, .unset, .unset] [(.int bg), (.int (7 : Int32)), (.ref b7), (.ref b7)]))
  refine own_stB A69 hx hZ V76 ⟨by decide, by decide⟩ g_b7 rfl rfl (hb hby at_133) (fun T77 h79 A78 W80 V81 => ?_)
  have Y82 : 0 ≤ h79.size := Nat.le_trans Y73 (Nat.le_of_eq (Wr.size W80).symm)
  have O83 : Old Z n0 h79 := O74.wr W80 g_b7
  have Z84 : n0 ≤ h79.size := Nat.le_trans Z75 (Nat.le_of_eq (Wr.size W80).symm)
  have V85 : own_Arr Z h79 b7 .byte (22 : Int32) (fun i => if i = (7 : Int32) then nar .byte bg else (fun i => if i = (6 : Int32) then nar .byte bg else (fun i => if i = (5 : Int32) then nar .byte bg else (fun i => if i = (4 : Int32) then nar .byte bg else (fun i => if i = (3 : Int32) then nar .byte bg else (fun i => if i = (2 : Int32) then nar .byte bg else (fun i => if i = (1 : Int32) then nar .byte bg else (fun i => if i = (0 : Int32) then nar .byte bg else (fun _ => 0) i) i) i) i) i) i) i) i) := V81
  show own_Go _ _ _ _ (T77.setTop (mkF m 134 #[.val (.int p0), .val (.int p1), .val (.long q2), .second, .val (.int p3), .val (.int (Int32.ofNat off)), .val (.int (Int32.ofNat nb)), .val (.int (if neg = true then (1 : Int32) else 0)), .val (.int (Int32.ofNat ni)), .val (.int (if pt = true then (1 : Int32) else 0)), .val (.int (Int32.ofNat nf)), .val (.int (Int32.ofNat nt)), .val (.int bg), .unset, .unset, .unset, .unset, .unset, .unset, .unset] [(.ref b7)]))
  refine own_go (fun t_ k_ => XS.dup A78.here hx rfl (hb hby at_134) rfl rfl k_) ?_
  show own_Go _ _ _ _ (T77.setTop (mkF m 135 #[.val (.int p0), .val (.int p1), .val (.long q2), .second, .val (.int p3), .val (.int (Int32.ofNat off)), .val (.int (Int32.ofNat nb)), .val (.int (if neg = true then (1 : Int32) else 0)), .val (.int (Int32.ofNat ni)), .val (.int (if pt = true then (1 : Int32) else 0)), .val (.int (Int32.ofNat nf)), .val (.int (Int32.ofNat nt)), .val (.int bg), .unset, .unset, .unset, .unset, .unset, .unset, .unset] [(.ref b7), (.ref b7)]))
  refine own_go (fun t_ k_ => XS.bipush A78.here hx rfl (hb hby at_135) k_) ?_
  show own_Go _ _ _ _ (T77.setTop (mkF m 137 #[.val (.int p0), .val (.int p1), .val (.long q2), .second, .val (.int p3), .val (.int (Int32.ofNat off)), .val (.int (Int32.ofNat nb)), .val (.int (if neg = true then (1 : Int32) else 0)), .val (.int (Int32.ofNat ni)), .val (.int (if pt = true then (1 : Int32) else 0)), .val (.int (Int32.ofNat nf)), .val (.int (Int32.ofNat nt)), .val (.int bg), .unset, .unset, .unset, .unset, .unset, .unset, .unset] [(.int (8 : Int32)), (.ref b7), (.ref b7)]))
  refine own_go (fun t_ k_ => XS.iload A78.here hx rfl (hb hby at_137) rfl k_) ?_
  show own_Go _ _ _ _ (T77.setTop (mkF m 139 #[.val (.int p0), .val (.int p1), .val (.long q2), .second, .val (.int p3), .val (.int (Int32.ofNat off)), .val (.int (Int32.ofNat nb)), .val (.int (if neg = true then (1 : Int32) else 0)), .val (.int (Int32.ofNat ni)), .val (.int (if pt = true then (1 : Int32) else 0)), .val (.int (Int32.ofNat nf)), .val (.int (Int32.ofNat nt)), .val (.int bg), .unset, .unset, .unset, .unset, .unset, .unset, .unset] [(.int bg), (.int (8 : Int32)), (.ref b7), (.ref b7)]))
  refine own_stB A78 hx hZ V85 ⟨by decide, by decide⟩ g_b7 rfl rfl (hb hby at_139) (fun T86 h88 A87 W89 V90 => ?_)
  have Y91 : 0 ≤ h88.size := Nat.le_trans Y82 (Nat.le_of_eq (Wr.size W89).symm)
  have O92 : Old Z n0 h88 := O83.wr W89 g_b7
  have Z93 : n0 ≤ h88.size := Nat.le_trans Z84 (Nat.le_of_eq (Wr.size W89).symm)
  have V94 : own_Arr Z h88 b7 .byte (22 : Int32) (fun i => if i = (8 : Int32) then nar .byte bg else (fun i => if i = (7 : Int32) then nar .byte bg else (fun i => if i = (6 : Int32) then nar .byte bg else (fun i => if i = (5 : Int32) then nar .byte bg else (fun i => if i = (4 : Int32) then nar .byte bg else (fun i => if i = (3 : Int32) then nar .byte bg else (fun i => if i = (2 : Int32) then nar .byte bg else (fun i => if i = (1 : Int32) then nar .byte bg else (fun i => if i = (0 : Int32) then nar .byte bg else (fun _ => 0) i) i) i) i) i) i) i) i) i) := V90
  show own_Go _ _ _ _ (T86.setTop (mkF m 140 #[.val (.int p0), .val (.int p1), .val (.long q2), .second, .val (.int p3), .val (.int (Int32.ofNat off)), .val (.int (Int32.ofNat nb)), .val (.int (if neg = true then (1 : Int32) else 0)), .val (.int (Int32.ofNat ni)), .val (.int (if pt = true then (1 : Int32) else 0)), .val (.int (Int32.ofNat nf)), .val (.int (Int32.ofNat nt)), .val (.int bg), .unset, .unset, .unset, .unset, .unset, .unset, .unset] [(.ref b7)]))
  refine own_go (fun t_ k_ => XS.dup A87.here hx rfl (hb hby at_140) rfl rfl k_) ?_
  show own_Go _ _ _ _ (T86.setTop (mkF m 141 #[.val (.int p0), .val (.int p1), .val (.long q2), .second, .val (.int p3), .val (.int (Int32.ofNat off)), .val (.int (Int32.ofNat nb)), .val (.int (if neg = true then (1 : Int32) else 0)), .val (.int (Int32.ofNat ni)), .val (.int (if pt = true then (1 : Int32) else 0)), .val (.int (Int32.ofNat nf)), .val (.int (Int32.ofNat nt)), .val (.int bg), .unset, .unset, .unset, .unset, .unset, .unset, .unset] [(.ref b7), (.ref b7)]))
  refine own_go (fun t_ k_ => XS.bipush A87.here hx rfl (hb hby at_141) k_) ?_
  show own_Go _ _ _ _ (T86.setTop (mkF m 143 #[.val (.int p0), .val (.int p1), .val (.long q2), .second, .val (.int p3), .val (.int (Int32.ofNat off)), .val (.int (Int32.ofNat nb)), .val (.int (if neg = true then (1 : Int32) else 0)), .val (.int (Int32.ofNat ni)), .val (.int (if pt = true then (1 : Int32) else 0)), .val (.int (Int32.ofNat nf)), .val (.int (Int32.ofNat nt)), .val (.int bg), .unset, .unset, .unset, .unset, .unset, .unset, .unset] [(.int (9 : Int32)), (.ref b7), (.ref b7)]))
  refine own_go (fun t_ k_ => XS.iload A87.here hx rfl (hb hby at_143) rfl k_) ?_
  show own_Go _ _ _ _ (T86.setTop (mkF m 145 #[.val (.int p0), .val (.int p1), .val (.long q2), .second, .val (.int p3), .val (.int (Int32.ofNat off)), .val (.int (Int32.ofNat nb)), .val (.int (if neg = true then (1 : Int32) else 0)), .val (.int (Int32.ofNat ni)), .val (.int (if pt = true then (1 : Int32) else 0)), .val (.int (Int32.ofNat nf)), .val (.int (Int32.ofNat nt)), .val (.int bg), .unset, .unset, .unset, .unset, .unset, .unset, .unset] [(.int bg), (.int (9 : Int32)), (.ref b7), (.ref b7)]))
  refine own_stB A87 hx hZ V94 ⟨by decide, by decide⟩ g_b7 rfl rfl (hb hby at_145) (fun T95 h97 A96 W98 V99 => ?_)
  have Y100 : 0 ≤ h97.size := Nat.le_trans Y91 (Nat.le_of_eq (Wr.size W98).symm)
  have O101 : Old Z n0 h97 := O92.wr W98 g_b7
  have Z102 : n0 ≤ h97.size := Nat.le_trans Z93 (Nat.le_of_eq (Wr.size W98).symm)
  have V103 : own_Arr Z h97 b7 .byte (22 : Int32) (fun i => if i = (9 : Int32) then nar .byte bg else (fun i => if i = (8 : Int32) then nar .byte bg else (fun i => if i = (7 : Int32) then nar .byte bg else (fun i => if i = (6 : Int32) then nar .byte bg else (fun i => if i = (5 : Int32) then nar .byte bg else (fun i => if i = (4 : Int32) then nar .byte bg else (fun i => if i = (3 : Int32) then nar .byte bg else (fun i => if i = (2 : Int32) then nar .byte bg else (fun i => if i = (1 : Int32) then nar .byte bg else (fun i => if i = (0 : Int32) then nar .byte bg else (fun _ => 0) i) i) i) i) i) i) i) i) i) i) := V99
  show own_Go _ _ _ _ (T95.setTop (mkF m 146 #[.val (.int p0), .val (.int p1), .val (.long q2), .second, .val (.int p3), .val (.int (Int32.ofNat off)), .val (.int (Int32.ofNat nb)), .val (.int (if neg = true then (1 : Int32) else 0)), .val (.int (Int32.ofNat ni)), .val (.int (if pt = true then (1 : Int32) else 0)), .val (.int (Int32.ofNat nf)), .val (.int (Int32.ofNat nt)), .val (.int bg), .unset, .unset, .unset, .unset, .unset, .unset, .unset] [(.ref b7)]))
  refine own_go (fun t_ k_ => XS.dup A96.here hx rfl (hb hby at_146) rfl rfl k_) ?_
  show own_Go _ _ _ _ (T95.setTop (mkF m 147 #[.val (.int p0), .val (.int p1), .val (.long q2), .second, .val (.int p3), .val (.int (Int32.ofNat off)), .val (.int (Int32.ofNat nb)), .val (.int (if neg = true then (1 : Int32) else 0)), .val (.int (Int32.ofNat ni)), .val (.int (if pt = true then (1 : Int32) else 0)), .val (.int (Int32.ofNat nf)), .val (.int (Int32.ofNat nt)), .val (.int bg), .unset, .unset, .unset, .unset, .unset, .unset, .unset] [(.ref b7), (.ref b7)]))
  refine own_go (fun t_ k_ => XS.bipush A96.here hx rfl (hb hby at_147) k_) ?_
  show own_Go _ _ _ _ (T95.setTop (mkF m 149 #[.val (.int p0), .val (.int p1), .val (.long q2), .second, .val (.int p3), .val (.int (Int32.ofNat off)), .val (.int (Int32.ofNat nb)), .val (.int (if neg = true then (1 : Int32) else 0)), .val (.int (Int32.ofNat ni)), .val (.int (if pt = true then (1 : Int32) else 0)), .val (.int (Int32.ofNat nf)), .val (.int (Int32.ofNat nt)), .val (.int bg), .unset, .unset, .unset, .unset, .unset, .unset, .unset] [(.int (10 : Int32)), (.ref b7), (.ref b7)]))
  refine own_go (fun t_ k_ => XS.iload A96.here hx rfl (hb hby at_149) rfl k_) ?_
  show own_Go _ _ _ _ (T95.setTop (mkF m 151 #[.val (.int p0), .val (.int p1), .val (.long q2), .second, .val (.int p3), .val (.int (Int32.ofNat off)), .val (.int (Int32.ofNat nb)), .val (.int (if neg = true then (1 : Int32) else 0)), .val (.int (Int32.ofNat ni)), .val (.int (if pt = true then (1 : Int32) else 0)), .val (.int (Int32.ofNat nf)), .val (.int (Int32.ofNat nt)), .val (.int bg), .unset, .unset, .unset, .unset, .unset, .unset, .unset] [(.int bg), (.int (10 : Int32)), (.ref b7), (.ref b7)]))
  refine own_stB A96 hx hZ V103 ⟨by decide, by decide⟩ g_b7 rfl rfl (hb hby at_151) (fun T104 h106 A105 W107 V108 => ?_)
  have Y109 : 0 ≤ h106.size := Nat.le_trans Y100 (Nat.le_of_eq (Wr.size W107).symm)
  have O110 : Old Z n0 h106 := O101.wr W107 g_b7
  have Z111 : n0 ≤ h106.size := Nat.le_trans Z102 (Nat.le_of_eq (Wr.size W107).symm)
  have V112 : own_Arr Z h106 b7 .byte (22 : Int32) (fun i => if i = (10 : Int32) then nar .byte bg else (fun i => if i = (9 : Int32) then nar .byte bg else (fun i => if i = (8 : Int32) then nar .byte bg else (fun i => if i = (7 : Int32) then nar .byte bg else (fun i => if i = (6 : Int32) then nar .byte bg else (fun i => if i = (5 : Int32) then nar .byte bg else (fun i => if i = (4 : Int32) then nar .byte bg else (fun i => if i = (3 : Int32) then nar .byte bg else (fun i => if i = (2 : Int32) then nar .byte bg else (fun i => if i = (1 : Int32) then nar .byte bg else (fun i => if i = (0 : Int32) then nar .byte bg else (fun _ => 0) i) i) i) i) i) i) i) i) i) i) i) := V108
  show own_Go _ _ _ _ (T104.setTop (mkF m 152 #[.val (.int p0), .val (.int p1), .val (.long q2), .second, .val (.int p3), .val (.int (Int32.ofNat off)), .val (.int (Int32.ofNat nb)), .val (.int (if neg = true then (1 : Int32) else 0)), .val (.int (Int32.ofNat ni)), .val (.int (if pt = true then (1 : Int32) else 0)), .val (.int (Int32.ofNat nf)), .val (.int (Int32.ofNat nt)), .val (.int bg), .unset, .unset, .unset, .unset, .unset, .unset, .unset] [(.ref b7)]))
  refine own_go (fun t_ k_ => XS.dup A105.here hx rfl (hb hby at_152) rfl rfl k_) ?_
  show own_Go _ _ _ _ (T104.setTop (mkF m 153 #[.val (.int p0), .val (.int p1), .val (.long q2), .second, .val (.int p3), .val (.int (Int32.ofNat off)), .val (.int (Int32.ofNat nb)), .val (.int (if neg = true then (1 : Int32) else 0)), .val (.int (Int32.ofNat ni)), .val (.int (if pt = true then (1 : Int32) else 0)), .val (.int (Int32.ofNat nf)), .val (.int (Int32.ofNat nt)), .val (.int bg), .unset, .unset, .unset, .unset, .unset, .unset, .unset] [(.ref b7), (.ref b7)]))
  refine own_go (fun t_ k_ => XS.bipush A105.here hx rfl (hb hby at_153) k_) ?_
  show own_Go _ _ _ _ (T104.setTop (mkF m 155 #[.val (.int p0), .val (.int p1), .val (.long q2), .second, .val (.int p3), .val (.int (Int32.ofNat off)), .val (.int (Int32.ofNat nb)), .val (.int (if neg = true then (1 : Int32) else 0)), .val (.int (Int32.ofNat ni)), .val (.int (if pt = true then (1 : Int32) else 0)), .val (.int (Int32.ofNat nf)), .val (.int (Int32.ofNat nt)), .val (.int bg), .unset, .unset, .unset, .unset, .unset, .unset, .unset] [(.int (11 : Int32)), (.ref b7), (.ref b7)]))
  refine own_go (fun t_ k_ => XS.iload A105.here hx rfl (hb hby at_155) rfl k_) ?_
  show own_Go _ _ _ _ (T104.setTop (mkF m 157 #[.val (.int p0), .val (.int p1), .val (.long q2), .second, .val (.int p3), .val (.int (Int32.ofNat off)), .val (.int (Int32.ofNat nb)), .val (.int (if neg = true then (1 : Int32) else 0)), .val (.int (Int32.ofNat ni)), .val (.int (if pt = true then (1 : Int32) else 0)), .val (.int (Int32.ofNat nf)), .val (.int (Int32.ofNat nt)), .val (.int bg), .unset, .unset, .unset, .unset, .unset, .unset, .unset] [(.int bg), (.int (11 : Int32)), (.ref b7), (.ref b7)]))
  refine own_stB A105 hx hZ V112 ⟨by decide, by decide⟩ g_b7 rfl rfl (hb hby at_157) (fun T113 h115 A114 W116 V117 => ?_)
  have Y118 : 0 ≤ h115.size := Nat.le_trans Y109 (Nat.le_of_eq (Wr.size W116).symm)
  have O119 : Old Z n0 h115 := O110.wr W116 g_b7
  have Z120 : n0 ≤ h115.size := Nat.le_trans Z111 (Nat.le_of_eq (Wr.size W116).symm)
  have V121 : own_Arr Z h115 b7 .byte (22 : Int32) (fun i => if i = (11 : Int32) then nar .byte bg else (fun i => if i = (10 : Int32) then nar .byte bg else (fun i => if i = (9 : Int32) then nar .byte bg else (fun i => if i = (8 : Int32) then nar .byte bg else (fun i => if i = (7 : Int32) then nar .byte bg else (fun i => if i = (6 : Int32) then nar .byte bg else (fun i => if i = (5 : Int32) then nar .byte bg else (fun i => if i = (4 : Int32) then nar .byte bg else (fun i => if i = (3 : Int32) then nar .byte bg else (fun i => if i = (2 : Int32) then nar .byte bg else (fun i => if i = (1 : Int32) then nar .byte bg else (fun i => if i = (0 : Int32) then nar .byte bg else (fun _ => 0) i) i) i) i) i) i) i) i) i) i) i) i) := V117
  show own_Go _ _ _ _ (T113.setTop (mkF m 158 #[.val (.int p0), .val (.int p1), .val (.long q2), .second, .val (.int p3), .val (.int (Int32.ofNat off)), .val (.int (Int32.ofNat nb)), .val (.int (if neg = true then (1 : Int32) else 0)), .val (.int (Int32.ofNat ni)), .val (.int (if pt = true then (1 : Int32) else 0)), .val (.int (Int32.ofNat nf)), .val (.int (Int32.ofNat nt)), .val (.int bg), .unset, .unset, .unset, .unset, .unset, .unset, .unset] [(.ref b7)]))
  refine own_go (fun t_ k_ => XS.dup A114.here hx rfl (hb hby at_158) rfl rfl k_) ?_
  show own_Go _ _ _ _ (T113.setTop (mkF m 159 #[.val (.int p0), .val (.int p1), .val (.long q2), .second, .val (.int p3), .val (.int (Int32.ofNat off)), .val (.int (Int32.ofNat nb)), .val (.int (if neg = true then (1 : Int32) else 0)), .val (.int (Int32.ofNat ni)), .val (.int (if pt = true then (1 : Int32) else 0)), .val (.int (Int32.ofNat nf)), .val (.int (Int32.ofNat nt)), .val (.int bg), .unset, .unset, .unset, .unset, .unset, .unset, .unset] [(.ref b7), (.ref b7)]))
  refine own_go (fun t_ k_ => XS.bipush A114.here hx rfl (hb hby at_159) k_) ?_
  show own_Go _ _ _ _ (T113.setTop (mkF m 161 #[.val (.int p0), .val (.int p1), .val (.long q2), .second, .val (.int p3), .val (.int (Int32.ofNat off)), .val (.int (Int32.ofNat nb)), .val (.int (if neg = true then (1 : Int32) else 0)), .val (.int (Int32.ofNat ni)), .val (.int (if pt = true then (1 : Int32) else 0)), .val (.int (Int32.ofNat nf)), .val (.int (Int32.ofNat nt)), .val (.int bg), .unset, .unset, .unset, .unset, .unset, .unset, .unset] [(.int (12 : Int32)), (.ref b7), (.ref b7)]))
  refine own_go (fun t_ k_ => XS.iload A114.here hx rfl (hb hby at_161) rfl k_) ?_
  show own_Go _ _ _ _ (T113.setTop (mkF m 163 #[.val (.int p0), .val (.int p1), .val (.long q2), .second, .val (.int p3), .val (.int (Int32.ofNat off)), .val (.int (Int32.ofNat nb)), .val (.int (if neg = true then (1 : Int32) else 0)), .val (.int (Int32.ofNat ni)), .val (.int (if pt = true then (1 : Int32) else 0)), .val (.int (Int32.ofNat nf)), .val (.int (Int32.ofNat nt)), .val (.int bg), .unset, .unset, .unset, .unset, .unset, .unset, .unset] [(.int bg), (.int (12 : Int32)), (.ref b7), (.ref b7)]))
  refine own_stB A114 hx hZ V121 ⟨by decide, by decide⟩ g_b7 rfl rfl (hb hby at_163) (fun T122 h124 A123 W125 V126 => ?_)
  have Y127 : 0 ≤ h124.size := Nat.le_trans Y118 (Nat.le_of_eq (Wr.size W125).symm)
  have O128 : Old Z n0 h124 := O119.wr W125 g_b7
  have Z129 : n0 ≤ h124.size := Nat.le_trans Z120 (Nat.le_of_eq (Wr.size W125).symm)
  have V130 : own_Arr Z h124 b7 .byte (22 : Int32) (fun i => if i = (12 : Int32) then nar .byte bg else (fun i => if i = (11 : Int32) then nar .byte bg else (fun i => if i = (10 : Int32) then nar .byte bg else (fun i => if i = (9 : Int32) then nar .byte bg else (fun i => if i = (8 : Int32) then nar .byte bg else (fun i => if i = (7 : Int32) then nar .byte bg else (fun i => if i = (6 : Int32) then nar .byte bg else (fun i => if i = (5 : Int32) then nar .byte bg else (fun i => if i = (4 : Int32) then nar .byte bg else (fun i => if i = (3 : Int32) then nar .byte bg else (fun i => if i = (2 : Int32) then nar .byte bg else (fun i => if i = (1 : Int32) then nar .byte bg else (fun i => if i = (0 : Int32) then nar .byte bg else (fun _ => 0) i) i) i) i) i) i) i) i) i) i) i) i) i) := V126
  show own_Go _ _ _ _ (T122.setTop (mkF m 164 #[.val (.int p0), .val (.int p1), .val (.long q2), .second, .val (.int p3), .val (.int (Int32.ofNat off)), .val (.int (Int32.ofNat nb)), .val (.int (if neg = true then (1 : Int32) else 0)), .val (.int (Int32.ofNat ni)), .val (.int (if pt = true then (1 : Int32) else 0)), .val (.int (Int32.ofNat nf)), .val (.int (Int32.ofNat nt)), .val (.int bg), .unset, .unset, .unset, .unset, .unset, .unset, .unset] [(.ref b7)]))
  refine own_go (fun t_ k_ => XS.dup A123.here hx rfl (hb hby at_164) rfl rfl k_) ?_
  show own_Go _ _ _ _ (T122.setTop (mkF m 165 #[.val (.int p0), .val (.int p1), .val (.long q2), .second, .val (.int p3), .val (.int (Int32.ofNat off)), .val (.int (Int32.ofNat nb)), .val (.int (if neg = true then (1 : Int32) else 0)), .val (.int (Int32.ofNat ni)), .val (.int (if pt = true then (1 : Int32) else 0)), .val (.int (Int32.ofNat nf)), .val (.int (Int32.ofNat nt)), .val (.int bg), .unset, .unset, .unset, .unset, .unset, .unset, .unset] [(.ref b7), (.ref b7)]))
  refine own_go (fun t_ k_ => XS.bipush A123.here hx rfl (hb hby at_165) k_) ?_
  show own_Go _ _ _ _ (T122.setTop (mkF m 167 #[.val (.int p0), .val (.int p1), .val (.long q2), .second, .val (.int p3), .val (.int (Int32.ofNat off)), .val (.int (Int32.ofNat nb)), .val (.int (if neg = true then (1 : Int32) else 0)), .val (.int (Int32.ofNat ni)), .val (.int (if pt = true then (1 : Int32) else 0)), .val (.int (Int32.ofNat nf)), .val (.int (Int32.ofNat nt)), .val (.int bg), .unset, .unset, .unset, .unset, .unset, .unset, .unset] [(.int (13 : Int32)), (.ref b7), (.ref b7)]))
  refine own_go (fun t_ k_ => XS.iload A123.here hx rfl (hb hby at_167) rfl k_) ?_
  show own_Go _ _ _ _ (T122.setTop (mkF m 169 #[.val (.int p0), .val (.int p1), .val (.long q2), .second, .val (.int p3), .val (.int (Int32.ofNat off)), .val (.int (Int32.ofNat nb)), .val (.int (if neg = true then (1 : Int32) else 0)), .val (.int (Int32.ofNat ni)), .val (.int (if pt = true then (1 : Int32) else 0)), .val (.int (Int32.ofNat nf)), .val (.int (Int32.ofNat nt)), .val (.int bg), .unset, .unset, .unset, .unset, .unset, .unset, .unset] [(.int bg), (.int (13 : Int32)), (.ref b7), (.ref b7)]))
  refine own_stB A123 hx hZ V130 ⟨by decide, by decide⟩ g_b7 rfl rfl (hb hby at_169) (fun T131 h133 A132 W134 V135 => ?_)
  have Y136 : 0 ≤ h133.size := Nat.le_trans Y127 (Nat.le_of_eq (Wr.size W134).symm)
  have O137 : Old Z n0 h133 := O128.wr W134 g_b7
  have Z138 : n0 ≤ h133.size := Nat.le_trans Z129 (Nat.le_of_eq (Wr.size W134).symm)
  have V139 : own_Arr Z h133 b7 .byte (22 : Int32) (fun i => if i = (13 : Int32) then nar .byte bg else (fun i => if i = (12 : Int32) then nar .byte bg else (fun i => if i = (11 : Int32) then nar .byte bg else (fun i => if i = (10 : Int32) then nar .byte bg else (fun i => if i = (9 : Int32) then nar .byte bg else (fun i => if i = (8 : Int32) then nar .byte bg else (fun i => if i = (7 : Int32) then nar .byte bg else (fun i => if i = (6 : Int32) then nar .byte bg else (fun i => if i = (5 : Int32) then nar .byte bg else (fun i => if i = (4 : Int32) then nar .byte bg else (fun i => if i = (3 : Int32) then nar .byte bg else (fun i => if i = (2 : Int32) then nar .byte bg else (fun i => if i = (1 : Int32) then nar .byte bg else (fun i => if i = (0 : Int32) then nar .byte bg else (fun _ => 0) i) i) i) i) i) i) i) i) i) i) i) i) i) i) := V135
  show own_Go _ _ _ _ (T131.setTop (mkF m 170 #[.val (.int p0), .val (.int p1), .val (.long q2), .second, .val (.int p3), .val (.int (Int32.ofNat off)), .val (.int (Int32.ofNat nb)), .val (.int (if neg = true then (1 : Int32) else 0)), .val (.int (Int32.ofNat ni)), .val (.int (if pt = true then (1 : Int32) else 0)), .val (.int (Int32.ofNat nf)), .val (.int (Int32.ofNat nt)), .val (.int bg), .unset, .unset, .unset, .unset, .unset, .unset, .unset] [(.ref b7)]))
  refine own_go (fun t_ k_ => XS.dup A132.here hx rfl (hb hby at_170) rfl rfl k_) ?_
  show own_Go _ _ _ _ (T131.setTop (mkF m 171 #[.val (.int p0), .val (.int p1), .val (.long q2), .second, .val (.int p3), .val (.int (Int32.ofNat off)), .val (.int (Int32.ofNat nb)), .val (.int (if neg = true then (1 : Int32) else 0)), .val (.int (Int32.ofNat ni)), .val (.int (if pt = true then (1 : Int32) else 0)), .val (.int (Int32.ofNat nf)), .val (.int (Int32.ofNat nt)), .val (.int bg), .unset, .unset, .unset, .unset, .unset, .unset, .unset] [(.ref b7), (.ref b7)]))
  refine own_go (fun t_ k_ => XS.bipush A132.here hx rfl (hb hby at_171) k_) ?_
  show own_Go _ _ _ _ (T131.setTop (mkF m 173 #[.val (.int p0), .val (.int p1), .val (.long q2), .second, .val (.int p3), .val (.int (Int32.ofNat off)), .val (.int (Int32.ofNat nb)), .val (.int (if neg = true then (1 : Int32) else 0)), .val (.int (Int32.ofNat ni)), .val (.int (if pt = true then (1 : Int32) else 0)), .val (.int (Int32.ofNat nf)), .val (.int (Int32.ofNat nt)), .val (.int bg), .unset, .unset, .unset, .unset, .unset, .unset, .unset] [(.int (14 : Int32)), (.ref b7), (.ref b7)]))
  refine own_go (fun t_ k_ => XS.iload A132.here hx rfl (hb hby at_173) rfl k_) ?_
  show own_Go _ _ _ _ (T131.setTop (mkF m 175 #[.val (.int p0), .val (.int p1), .val (.long q2), .second, .val (.int p3), .val (.int (Int32.ofNat off)), .val (.int (Int32.ofNat nb)), .val (.int (if neg = true then (1 : Int32) else 0)), .val (.int (Int32.ofNat ni)), .val (.int (if pt = true then (1 : Int32) else 0)), .val (.int (Int32.ofNat nf)), .val (.int (Int32.ofNat nt)), .val (.int bg), .unset, .unset, .unset, .unset, .unset, .unset, .unset] [(.int bg), (.int (14 : Int32)), (.ref b7), (.ref b7)]))
  refine own_stB A132 hx hZ V139 ⟨by decide, by decide⟩ g_b7 rfl rfl (hb hby at_175) (fun T140 h142 A141 W143 V144 => ?_)
  have Y145 : 0 ≤ h142.size := Nat.le_trans Y136 (Nat.le_of_eq (Wr.size W143).symm)
  have O146 : Old Z n0 h142 := O137.wr W143 g_b7
  have Z147 : n0 ≤ h142.size := Nat.le_trans Z138 (Nat.le_of_eq (Wr.size W143).symm)
  have V148 : own_Arr Z h142 b7 .byte (22 : Int32) (fun i => if i = (14 : Int32) then nar .byte bg else (fun i => if i = (13 : Int32) then nar .byte bg else (fun i => if i = (12 : Int32) then nar .byte bg else (fun i => if i = (11 : Int32) then nar .byte bg else (fun i => if i = (10 : Int32) then nar .byte bg else (fun i => if i = (9 : Int32) then nar .byte bg else (fun i => if i = (8 : Int32) then nar .byte bg else (fun i => if i = (7 : Int32) then nar .byte bg else (fun i => if i = (6 : Int32) then nar .byte bg else (fun i => if i = (5 : Int32) then nar .byte bg else (fun i => if i = (4 : Int32) then nar .byte bg else (fun i => if i = (3 : Int32) then nar .byte bg else (fun i => if i = (2 : Int32) then nar .byte bg else (fun i => if i = (1 : Int32) then nar .byte bg else (fun i => if i = (0 : Int32) then nar .byte bg else (fun _ => 0) i) i) i) i) i) i) i) i) i) i) i) i) i) i) i) := V144
  show own_Go _ _ _ _ (T140.setTop (mkF m 176 #[.val (.int p0), .val (.int p1), .val (.long q2), .second, .val (.int p3), .val (.int (Int32.ofNat off)), .val (.int (Int32.ofNat nb)), .val (.int (if neg = true then (1 : Int32) else 0)), .val (.int (Int32.ofNat ni)), .val (.int (if pt = true then (1 : Int32) else 0)), .val (.int (Int32.ofNat nf)), .val (.int (Int32.ofNat nt)), .val (.int bg), .unset, .unset, .unset, .unset, .unset, .unset, .unset] [(.ref b7)]))
  refine own_go (fun t_ k_ => XS.dup A141.here hx rfl (hb hby at_176) rfl rfl k_) ?_
  show own_Go _ _ _ _ (T140.setTop (mkF m 177 #[.val (.int p0), .val (.int p1), .val (.long q2), .second, .val (.int p3), .val (.int (Int32.ofNat off)), .val (.int (Int32.ofNat nb)), .val (.int (if neg = true then (1 : Int32) else 0)), .val (.int (Int32.ofNat ni)), .val (.int (if pt = true then (1 : Int32) else 0)), .val (.int (Int32.ofNat nf)), .val (.int (Int32.ofNat nt)), .val (.int bg), .unset, .unset, .unset, .unset, .unset, .unset, .unset] [(.ref b7), (.ref b7)]))
  refine own_go (fun t_ k_ => XS.bipush A141.here hx rfl (hb hby at_177) k_) ?_
  show own_Go _ _ _ _ (T140.setTop (mkF m 179 #[.val (.int p0), .val (.int p1), .val (.long q2), .second, .val (.int p3), .val (.int (Int32.ofNat off)), .val (.int (Int32.ofNat nb)), .val (.int (if neg = true then (1 : Int32) else 0)), .val (.int (Int32.ofNat ni)), .val (.int (if pt = true then (1 : Int32) else 0)), .val (.int (Int32.ofNat nf)), .val (.int (Int32.ofNat nt)), .val (.int bg), .unset, .unset, .unset, .unset, .unset, .unset, .unset] [(.int (15 : Int32)), (.ref b7), (.ref b7)]))
  refine own_go (fun t_ k_ => XS.iload A141.here hx rfl (hb hby at_179) rfl k_) ?_
  show own_Go _ _ _ _ (T140.setTop (mkF m 181 #[.val (.int p0), .val (.int p1), .val (.long q2), .second, .val (.int p3), .val (.int (Int32.ofNat off)), .val (.int (Int32.ofNat nb)), .val (.int (if neg = true then (1 : Int32) else 0)), .val (.int (Int32.ofNat ni)), .val (.int (if pt = true then (1 : Int32) else 0)), .val (.int (Int32.ofNat nf)), .val (.int (Int32.ofNat nt)), .val (.int bg), .unset, .unset, .unset, .unset, .unset, .unset, .unset] [(.int bg), (.int (15 : Int32)), (.ref b7), (.ref b7)]))
  refine own_stB A141 hx hZ V148 ⟨by decide, by decide⟩ g_b7 rfl rfl (hb hby at_181) (fun T149 h151 A150 W152 V153 => ?_)
  have Y154 : 0 ≤ h151.size := Nat.le_trans Y145 (Nat.le_of_eq (Wr.size W152).symm)
  have O155 : Old Z n0 h151 := O146.wr W152 g_b7
  have Z156 : n0 ≤ h151.size := Nat.le_trans Z147 (Nat.le_of_eq (Wr.size W152).symm)
  have V157 : own_Arr Z h151 b7 .byte (22 : Int32) (fun i => if i = (15 : Int32) then nar .byte bg else (fun i => if i = (14 : Int32) then nar .byte bg else (fun i => if i = (13 : Int32) then nar .byte bg else (fun i => if i = (12 : Int32) then nar .byte bg else (fun i => if i = (11 : Int32) then nar .byte bg else (fun i => if i = (10 : Int32) then nar .byte bg else (fun i => if i = (9 : Int32) then nar .byte bg else (fun i => if i = (8 : Int32) then nar .byte bg else (fun i => if i = (7 : Int32) then nar .byte bg else (fun i => if i = (6 : Int32) then nar .byte bg else (fun i => if i = (5 : Int32) then nar .byte bg else (fun i => if i = (4 : Int32) then nar .byte bg else (fun i => if i = (3 : Int32) then nar .byte bg else (fun i => if i = (2 : Int32) then nar .byte bg else (fun i => if i = (1 : Int32) then nar .byte bg else (fun i => if i = (0 : Int32) then nar .byte bg else (fun _ => 0) i) i) i) i) i) i) i) i) i) i) i) i) i) i) i) i) := V153
  show own_Go _ _ _ _ (T149.setTop (mkF m 182 #[.val (.int p0), .val (.int p1), .val (.long q2), .second, .val (.int p3), .val (.int (Int32.ofNat off)), .val (.int (Int32.ofNat nb)), .val (.int (if neg = true then (1 : Int32) else 0)), .val (.int (Int32.ofNat ni)), .val (.int (if pt = true then (1 : Int32) else 0)), .val (.int (Int32.ofNat nf)), .val (.int (Int32.ofNat nt)), .val (.int bg), .unset, .unset, .unset, .unset, .unset, .unset, .unset] [(.ref b7)]))
  refine own_go (fun t_ k_ => XS.dup A150.here hx rfl (hb hby at_182) rfl rfl k_) ?_
  show own_Go _ _ _ _ (T149.setTop (mkF m 183 #[.val (.int p0), .val (.int p1), .val (.long q2), .second, .val (.int p3), .val (.int (Int32.ofNat off)), .val (.int (Int32.ofNat nb)), .val (.int (if neg = true then (1 : Int32) else 0)), .val (.int (Int32.ofNat ni)), .val (.int (if pt = true then (1 : Int32) else 0)), .val (.int (Int32.ofNat nf)), .val (.int (Int32.ofNat nt)), .val (.int bg), .unset, .unset, .unset, .unset, .unset, .unset, .unset] [(.ref b7), (.ref b7)]))
  refine own_go (fun t_ k_ => XS.bipush A150.here hx rfl (hb hby at_183) k_) ?_
  show own_Go _ _ _ _ (T149.setTop (mkF m 185 #[.val (.int p0), .val (.int p1), .val (.long q2), .second, .val (.int p3), .val (.int (Int32.ofNat off)), .val (.int (Int32.ofNat nb)), .val (.int (if neg = true then (1 : Int32) else 0)), .val (.int (Int32.ofNat ni)), .val (.int (if pt = true then (1 : Int32) else 0)), .val (.int (Int32.ofNat nf)), .val (.int (Int32.ofNat nt)), .val (.int bg), .unset, .unset, .unset, .unset, .unset, .unset, .unset] [(.int (16 : Int32)), (.ref b7), (.ref b7)]))
  refine own_go (fun t_ k_ => XS.iload A150.here hx rfl (hb hby at_185) rfl k_) ?_
  show own_Go _ _ _ _ (T149.setTop (mkF m 187 #[.val (.int p0), .val (.int p1), .val (.long q2), .second, .val (.int p3), .val (.int (Int32.ofNat off)), .val (.int (Int32.ofNat nb)), .val (.int (if neg = true then (1 : Int32) else 0)), .val (.int (Int32.ofNat ni)), .val (.int (if pt = true then (1 : Int32) else 0)), .val (.int (Int32.ofNat nf)), .val (.int (Int32.ofNat nt)), .val (.int bg), .unset, .unset, .unset, .unset, .unset, .unset, .unset] [(.int bg), (.int (16 : Int32)), (.ref b7), (.ref b7)]))
  refine own_stB A150 hx hZ V157 ⟨by decide, by decide⟩ g_b7 rfl rfl (hb hby at_187) (fun T158 h160 A159 W161 V162 => ?_)
  have Y163 : 0 ≤ h160.size := Nat.le_trans Y154 (Nat.le_of_eq (Wr.size W161).symm)
  have O164 : Old Z n0 h160 := O155.wr W161 g_b7
  have Z165 : n0 ≤ h160.size := Nat.le_trans Z156 (Nat.le_of_eq (Wr.size W161).symm)
  have V166 : own_Arr Z h160 b7 .byte (22 : Int32) (fun i => if i = (16 : Int32) then nar .byte bg else (fun i => if i = (15 : Int32) then nar .byte bg else (fun i => if i = (14 : Int32) then nar .byte bg else (fun i => if i = (13 : Int32) then nar .byte bg else (fun i => if i = (12 : Int32) then nar .byte bg else (fun i => if i = (11 : Int32) then nar .byte bg else (fun i => if i = (10 : Int32) then nar .byte bg else (fun i => if i = (9 : Int32) then nar .byte bg else (fun i => if i = (8 : Int32) then nar .byte bg else (fun i => if i = (7 : Int32) then nar .byte bg else (fun i => if i = (6 : Int32) then nar .byte bg else (fun i => if i = (5 : Int32) then nar .byte bg else (fun i => if i = (4 : Int32) then nar .byte bg else (fun i => if i = (3 : Int32) then nar .byte bg else (fun i => if i = (2 : Int32) then nar .byte bg else (fun i => if i = (1 : Int32) then nar .byte bg else (fun i => if i = (0 : Int32) then nar .byte bg else (fun _ => 0) i) i) i) i) i) i) i) i) i) i) i) i) i) i) i) i) i) := V162
  show own_Go _ _ _ _ (T158.setTop (mkF m 188 #[.val (.int p0), .val (.int p1), .val (.long q2), .second, .val (.int p3), .val (.int (Int32.ofNat off)), .val (.int (Int32.ofNat nb)), .val (.int (if neg = true then (1 : Int32) else 0)), .val (.int (Int32.ofNat ni)), .val (.int (if pt = true then (1 : Int32) else 0)), .val (.int (Int32.ofNat nf)), .val (.int (Int32.ofNat nt)), .val (.int bg), .unset, .unset, .unset, .unset, .unset, .unset, .unset] [(.ref b7)]))
  refine own_go (fun t_ k_ => XS.dup A159.here hx rfl (hb hby at_188) rfl rfl k_) ?_
  show own_Go _ _ _ _ (T158.setTop (mkF m 189 #[.val (.int p0), .val (.int p1), .val (.long q2), .second, .val (.int p3), .val (.int (Int32.ofNat off)), .val (.int (Int32.ofNat nb)), .val (.int (if neg = true then (1 : Int32) else 0)), .val (.int (Int32.ofNat ni)), .val (.int (if pt = true then (1 : Int32) else 0)), .val (.int (Int32.ofNat nf)), .val (.int (Int32.ofNat nt)), .val (.int bg), .unset, .unset, .unset, .unset, .unset, .unset, .unset] [(.ref b7), (.ref b7)]))
  refine own_go (fun t_ k_ => XS.bipush A159.here hx rfl (hb hby at_189) k_) ?_
  show own_Go _ _ _ _ (T158.setTop (mkF m 191 #[.val (.int p0), .val (.int p1), .val (.long q2), .second, .val (.int p3), .val (.int (Int32.ofNat off)), .val (.int (Int32.ofNat nb)), .val (.int (if neg = true then (1 : Int32) else 0)), .val (.int (Int32.ofNat ni)), .val (.int (if pt = true then (1 : Int32) else 0)), .val (.int (Int32.ofNat nf)), .val (.int (Int32.ofNat nt)), .val (.int bg), .unset, .unset, .unset, .unset, .unset, .unset, .unset] [(.int (17 : Int32)), (.ref b7), (.ref b7)]))
  refine own_go (fun t_ k_ => XS.iload A159.here hx rfl (hb hby at_191) rfl k_) ?_
  show own_Go _ _ _ _ (T158.setTop (mkF m 193 #[.val (.int p0), .val (.int p1), .val (.long q2), .second, .val (.int p3), .val (.int (Int32.ofNat off)), .val (.int (Int32.ofNat nb)), .val (.int (if neg = true then (1 : Int32) else 0)), .val (.int (Int32.ofNat ni)), .val (.int (if pt = true then (1 : Int32) else 0)), .val (.int (Int32.ofNat nf)), .val (.int (Int32.ofNat nt)), .val (.int bg), .unset, .unset, .unset, .unset, .unset, .unset, .unset] [(.int bg), (.int (17 : Int32)), (.ref b7), (.ref b7)]))
  refine own_stB A159 hx hZ V166 ⟨by decide, by decide⟩ g_b7 rfl rfl (hb hby at_193) (fun T167 h169 A168 W170 V171 => ?_)
  have Y172 : 0 ≤ h169.size := Nat.le_trans Y163 (Nat.le_of_eq (Wr.size W170).symm)
  have O173 : Old Z n0 h169 := O164.wr W170 g_b7
  have Z174 : n0 ≤ h169.size := Nat.le_trans Z165 (Nat.le_of_eq (Wr.size W170).symm)
  have V175 : own_Arr Z h169 b7 .byte (22 : Int32) (fun i => if i = (17 : Int32) then nar .byte bg else (fun i => if i = (16 : Int32) then nar .byte bg else (fun i => if i = (15 : Int32) then nar .byte bg else (fun i => if i = (14 : Int32) then nar .byte bg else (fun i => if i = (13 : Int32) then nar .byte bg else (fun i => if i = (12 : Int32) then nar .byte bg else (fun i => if i = (11 : Int32) then nar .byte bg else (fun i => if i = (10 : Int32) then nar .byte bg else (fun i => if i = (9 : Int32) then nar .byte bg else (fun i => if i = (8 : Int32) then nar .byte bg else (fun i => if i = (7 : Int32) then nar .byte bg else (fun i => if i = (6 : Int32) then nar .byte bg else (fun i => if i = (5 : Int32) then nar .byte bg else (fun i => if i = (4 : Int32) then nar .byte bg else (fun i => if i = (3 : Int32) then nar .byte bg else (fun i => if i = (2 : Int32) then nar .byte bg else (fun i => if i = (1 : Int32) then nar .byte bg else (fun i => if i = (0 : Int32) then nar .byte bg else (fun _ => 0) i) i) i) i) i) i) i) i) i) i) i) i) i) i) i) i) i) i) := V171
  show own_Go _ _ _ _ (T167.setTop (mkF m 194 #[.val (.int p0), .val (.int p1), .val (.long q2), .second, .val (.int p3), .val (.int (Int32.ofNat off)), .val (.int (Int32.ofNat nb)), .val (.int (if neg = true then (1 : Int32) else 0)), .val (.int (Int32.ofNat ni)), .val (.int (if pt = true then (1 : Int32) else 0)), .val (.int (Int32.ofNat nf)), .val (.int (Int32.ofNat nt)), .val (.int bg), .unset, .unset, .unset, .unset, .unset, .unset, .unset] [(.ref b7)]))
  refine own_go (fun t_ k_ => XS.dup A168.here hx rfl (hb hby at_194) rfl rfl k_) ?_
  show own_Go _ _ _ _ (T167.setTop (mkF m 195 #[.val (.int p0), .val (.int p1), .val (.long q2), .second, .val (.int p3), .val (.int (Int32.ofNat off)), .val (.int (Int32.ofNat nb)), .val (.int (if neg = true then (1 : Int32) else 0)), .val (.int (Int32.ofNat ni)), .val (.int (if pt = true then (1 : Int32) else 0)), .val (.int (Int32.ofNat nf)), .val (.int (Int32.ofNat nt)), .val (.int bg), .unset, .unset, .unset, .unset, .unset, .unset, .unset] [(.ref b7), (.ref b7)]))
  refine own_go (fun t_ k_ => XS.bipush A168.here hx rfl (hb hby at_195) k_) ?_
  show own_Go _ _ _ _ (T167.setTop (mkF m 197 #[.val (.int p0), .val (.int p1), .val (.long q2), .second, .val (.int p3), .val (.int (Int32.ofNat off)), .val (.int (Int32.ofNat nb)), .val (.int (if neg = true then (1 : Int32) else 0)), .val (.int (Int32.ofNat ni)), .val (.int (if pt = true then (1 : Int32) else 0)), .val (.int (Int32.ofNat nf)), .val (.int (Int32.ofNat nt)), .val (.int bg), .unset, .unset, .unset, .unset, .unset, .unset, .unset] [(.int (18 : Int32)), (.ref b7), (.ref b7)]))
  refine own_go (fun t_ k_ => XS.iload A168.here hx rfl (hb hby at_197) rfl k_) ?_
  show own_Go _ _ _ _ (T167.setTop (mkF m 199 #[.val (.int p0), .val (.int p1), .val (.long q2), .second, .val (.int p3), .val (.int (Int32.ofNat off)), .val (.int (Int32.ofNat nb)), .val (.int (if neg = true then (1 : Int32) else 0)), .val (.int (Int32.ofNat ni)), .val (.int (if pt = true then (1 : Int32) else 0)), .val (.int (Int32.ofNat nf)), .val (.int (Int32.ofNat nt)), .val (.int bg), .unset, .unset, .unset, .unset, .unset, .unset, .unset] [(.int bg), (.int (18 : Int32)), (.ref b7), (.ref b7)]))
  refine own_stB A168 hx hZ V175 ⟨by decide, by decide⟩ g_b7 rfl rfl (hb hby at_199) (fun T176 h178 A177 W179 V180 => ?_)
  have Y181 : 0 ≤ h178.size := Nat.le_trans Y172 (Nat.le_of_eq (Wr.size W179).symm)
  have O182 : Old Z n0 h178 := O173.wr W179 g_b7
  have Z183 : n0 ≤ h178.size := Nat.le_trans Z174 (Nat.le_of_eq (Wr.size W179).symm)
  have V184 : own_Arr Z h178 b7 .byte (22 : Int32) (fun i => if i = (18 : Int32) then nar .byte bg else (fun i => if i = (17 : Int32) then nar .byte bg else (fun i => if i = (16 : Int32) then nar .byte bg else (fun i => if i = (15 : Int32) then nar .byte bg else (fun i => if i = (14 : Int32) then nar .byte bg else (fun i => if i = (13 : Int32) then nar .byte bg else (fun i => if i = (12 : Int32) then nar .byte bg else (fun i => if i = (11 : Int32) then nar .byte bg else (fun i => if i = (10 : Int32) then nar .byte bg else (fun i => if i = (9 : Int32) then nar .byte bg else (fun i => if i = (8 : Int32) then nar .byte bg else (fun i => if i = (7 : Int32) then nar .byte bg else (fun i => if i = (6 : Int32) then nar .byte bg else (fun i => if i = (5 : Int32) then nar .byte bg else (fun i => if i = (4 : Int32) then nar .byte bg else (fun i => if i = (3 : Int32) then nar .byte bg else (fun i => if i = (2 : Int32) then nar .byte bg else (fun i => if i = (1 : Int32) then nar .byte bg else (fun i => if i = (0 : Int32) then nar .byte bg else (fun _ => 0) i) i) i) i) i) i) i) i) i) i) i) i) i) i) i) i) i) i) i) := V180
  show own_Go _ _ _ _ (T176.setTop (mkF m 200 #[.val (.int p0), .val (.int p1), .val (.long q2), .second, .val (.int p3), .val (.int (Int32.ofNat off)), .val (.int (Int32.ofNat nb)), .val (.int (if neg = true then (1 : Int32) else 0)), .val (.int (Int32.ofNat ni)), .val (.int (if pt = true then (1 : Int32) else 0)), .val (.int (Int32.ofNat nf)), .val (.int (Int32.ofNat nt)), .val (.int bg), .unset, .unset, .unset, .unset, .unset, .unset, .unset] [(.ref b7)]))
  refine own_go (fun t_ k_ => XS.dup A177.here hx rfl (hb hby at_200) rfl rfl k_) ?_
  show own_Go _ _ _ _ (T176.setTop (mkF m 201 #[.val (.int p0), .val (.int p1), .val (.long q2), .second, .val (.int p3), .val (.int (Int32.ofNat off)), .val (.int (Int32.ofNat nb)), .val (.int (if neg = true then (1 : Int32) else 0)), .val (.int (Int32.ofNat ni)), .val (.int (if pt = true then (1 : Int32) else 0)), .val (.int (Int32.ofNat nf)), .val (.int (Int32.ofNat nt)), .val (.int bg), .unset, .unset, .unset, .unset, .unset, .unset, .unset] [(.ref b7), (.ref b7)]))
  refine own_go (fun t_ k_ => XS.bipush A177.here hx rfl (hb hby at_201) k_) ?_
  show own_Go _ _ _ _ (T176.setTop (mkF m 203 #[.val (.int p0), .val (.int p1), .val (.long q2), .second, .val (.int p3), .val (.int (Int32.ofNat off)), .val (.int (Int32.ofNat nb)), .val (.int (if neg = true then (1 : Int32) else 0)), .val (.int (Int32.ofNat ni)), .val (.int (if pt = true then (1 : Int32) else 0)), .val (.int (Int32.ofNat nf)), .val (.int (Int32.ofNat nt)), .val (.int bg), .unset, .unset, .unset, .unset, .unset, .unset, .unset] [(.int (19 : Int32)), (.ref b7), (.ref b7)]))
  refine own_go (fun t_ k_ => XS.iload A177.here hx rfl (hb hby at_203) rfl k_) ?_
  show own_Go _ _ _ _ (T176.setTop (mkF m 205 #[.val (.int p0), .val (.int p1), .val (.long q2), .second, .val (.int p3), .val (.int (Int32.ofNat off)), .val (.int (Int32.ofNat nb)), .val (.int (if neg = true then (1 : Int32) else 0)), .val (.int (Int32.ofNat ni)), .val (.int (if pt = true then (1 : Int32) else 0)), .val (.int (Int32.ofNat nf)), .val (.int (Int32.ofNat nt)), .val (.int bg), .unset, .unset, .unset, .unset, .unset, .unset, .unset] [(.int bg), (.int (19 : Int32)), (.ref b7), (.ref b7)]))
  refine own_stB A177 hx hZ V184 ⟨by decide, by decide⟩ g_b7 rfl rfl (hb hby at_205) (fun T185 h187 A186 W188 V189 => ?_)
  have Y190 : 0 ≤ h187.size := Nat.le_trans Y181 (Nat.le_of_eq (Wr.size W188).symm)
  have O191 : Old Z n0 h187 := O182.wr W188 g_b7
  have Z192 : n0 ≤ h187.size := Nat.le_trans Z183 (Nat.le_of_eq (Wr.size W188).symm)
  have V193 : own_Arr Z h187 b7 .byte (22 : Int32) (fun i => if i = (19 : Int32) then nar .byte bg else (fun i => if i = (18 : Int32) then nar .byte bg else (fun i => if i = (17 : Int32) then nar .byte bg else (fun i => if i = (16 : Int32) then nar .byte bg else (fun i => if i = (15 : Int32) then nar .byte bg else (fun i => if i = (14 : Int32) then nar .byte bg else (fun i => if i = (13 : Int32) then nar .byte bg else (fun i => if i = (12 : Int32) then nar .byte bg else (fun i => if i = (11 : Int32) then nar .byte bg else (fun i => if i = (10 : Int32) then nar .byte bg else (fun i => if i = (9 : Int32) then nar .byte bg else (fun i => if i = (8 : Int32) then nar .byte bg else (fun i => if i = (7 : Int32) then nar .byte bg else (fun i => if i = (6 : Int32) then nar .byte bg else (fun i => if i = (5 : Int32) then nar .byte bg else (fun i => if i = (4 : Int32) then nar .byte bg else (fun i => if i = (3 : Int32) then nar .byte bg else (fun i => if i = (2 : Int32) then nar .byte bg else (fun i => if i = (1 : Int32) then nar .byte bg else (fun i => if i = (0 : Int32) then nar .byte bg else (fun _ => 0) i) i) i) i) i) i) i) i) i) i) i) i) i) i) i) i) i) i) i) i) := V189
  show own_Go _ _ _ _ (T185.setTop (mkF m 206 #[.val (.int p0), .val (.int p1), .val (.long q2), .second, .val (.int p3), .val (.int (Int32.ofNat off)), .val (.int (Int32.ofNat nb)), .val (.int (if neg = true then (1 : Int32) else 0)), .val (.int (Int32.ofNat ni)), .val (.int (if pt = true then (1 : Int32) else 0)), .val (.int (Int32.ofNat nf)), .val (.int (Int32.ofNat nt)), .val (.int bg), .unset, .unset, .unset, .unset, .unset, .unset, .unset] [(.ref b7)]))
  refine own_go (fun t_ k_ => XS.dup A186.here hx rfl (hb hby at_206) rfl rfl k_) ?_
  show own_Go _ _ _ _ (T185.setTop (mkF m 207 #[.val (.int p0), .val (.int p1), .val (.long q2), .second, .val (.int p3), .val (.int (Int32.ofNat off)), .val (.int (Int32.ofNat nb)), .val (.int (if neg = true then (1 : Int32) else 0)), .val (.int (Int32.ofNat ni)), .val (.int (if pt = true then (1 : Int32) else 0)), .val (.int (Int32.ofNat nf)), .val (.int (Int32.ofNat nt)), .val (.int bg), .unset, .unset, .unset, .unset, .unset, .unset, .unset] [(.ref b7), (.ref b7)]))
  refine own_go (fun t_ k_ => XS.bipush A186.here hx rfl (hb hby at_207) k_) ?_
  show own_Go _ _ _ _ (T185.setTop (mkF m 209 #[.val (.int p0), .val (.int p1), .val (.long q2), .second, .val (.int p3), .val (.int (Int32.ofNat off)), .val (.int (Int32.ofNat nb)), .val (.int (if neg = true then (1 : Int32) else 0)), .val (.int (Int32.ofNat ni)), .val (.int (if pt = true then (1 : Int32) else 0)), .val (.int (Int32.ofNat nf)), .val (.int (Int32.ofNat nt)), .val (.int bg), .unset, .unset, .unset, .unset, .unset, .unset, .unset] [(.int (20 : Int32)), (.ref b7), (.ref b7)]))
  refine own_go (fun t_ k_ => XS.iload A186.here hx rfl (hb hby at_209) rfl k_) ?_
  show own_Go _ _ _ _ (T185.setTop (mkF m 211 #[.val (.int p0), .val (.int p1), .val (.long q2), .second, .val (.int p3), .val (.int (Int32.ofNat off)), .val (.int (Int32.ofNat nb)), .val (.int (if neg = true then (1 : Int32) else 0)), .val (.int (Int32.ofNat ni)), .val (.int (if pt = true then (1 : Int32) else 0)), .val (.int (Int32.ofNat nf)), .val (.int (Int32.ofNat nt)), .val (.int bg), .unset, .unset, .unset, .unset, .unset, .unset, .unset] [(.int bg), (.int (20 : Int32)), (.ref b7), (.ref b7)]))
  refine own_stB A186 hx hZ V193 ⟨by decide, by decide⟩ g_b7 rfl rfl (hb hby at_211) (fun T194 h196 A195 W197 V198 => ?_)
  have Y199 : 0 ≤ h196.size := Nat.le_trans Y190 (Nat.le_of_eq (Wr.size W197).symm)
  have O200 : Old Z n0 h196 := O191.wr W197 g_b7
  have Z201 : n0 ≤ h196.size := Nat.le_trans Z192 (Nat.le_of_eq (Wr.size W197).symm)
  have V202 : own_Arr Z h196 b7 .byte (22 : Int32) (fun i => if i = (20 : Int32) then nar .byte bg else (fun i => if i = (19 : Int32) then nar .byte bg else (fun i => if i = (18 : Int32) then nar .byte bg else (fun i => if i = (17 : Int32) then nar .byte bg else (fun i => if i = (16 : Int32) then nar .byte bg else (fun i => if i = (15 : Int32) then nar .byte bg else (fun i => if i = (14 : Int32) then nar .byte bg else (fun i => if i = (13 : Int32) then nar .byte bg else (fun i => if i = (12 : Int32) then nar .byte bg else (fun i => if i = (11 : Int32) then nar .byte bg else (fun i => if i = (10 : Int32) then nar .byte bg else (fun i => if i = (9 : Int32) then nar .byte bg else (fun i => if i = (8 : Int32) then nar .byte bg else (fun i => if i = (7 : Int32) then nar .byte bg else (fun i => if i = (6 : Int32) then nar .byte bg else (fun i => if i = (5 : Int32) then nar .byte bg else (fun i => if i = (4 : Int32) then nar .byte bg else (fun i => if i = (3 : Int32) then nar .byte bg else (fun i => if i = (2 : Int32) then nar .byte bg else (fun i => if i = (1 : Int32) then nar .byte bg else (fun i => if i = (0 : Int32) then nar .byte bg else (fun _ => 0) i) i) i) i) i) i) i) i) i) i) i) i) i) i) i) i) i) i) i) i) i) := V198
  show own_Go _ _ _ _ (T194.setTop (mkF m 212 #[.val (.int p0), .val (.int p1), .val (.long q2), .second, .val (.int p3), .val (.int (Int32.ofNat off)), .val (.int (Int32.ofNat nb)), .val (.int (if neg = true then (1 : Int32) else 0)), .val (.int (Int32.ofNat ni)), .val (.int (if pt = true then (1 : Int32) else 0)), .val (.int (Int32.ofNat nf)), .val (.int (Int32.ofNat nt)), .val (.int bg), .unset, .unset, .unset, .unset, .unset, .unset, .unset] [(.ref b7)]))
  refine own_go (fun t_ k_ => XS.dup A195.here hx rfl (hb hby at_212) rfl rfl k_) ?_
  show own_Go _ _ _ _ (T194.setTop (mkF m 213 #[.val (.int p0), .val (.int p1), .val (.long q2), .second, .val (.int p3), .val (.int (Int32.ofNat off)), .val (.int (Int32.ofNat nb)), .val (.int (if neg = true then (1 : Int32) else 0)), .val (.int (Int32.ofNat ni)), .val (.int (if pt = true then (1 : Int32) else 0)), .val (.int (Int32.ofNat nf)), .val (.int (Int32.ofNat nt)), .val (.int bg), .unset, .unset, .unset, .unset, .unset, .unset, .unset] [(.ref b7), (.ref b7)]))
  refine own_go (fun t_ k_ => XS.bipush A195.here hx rfl (hb hby at_213) k_) ?_
  show own_Go _ _ _ _ (T194.setTop (mkF m 215 #[.val (.int p0), .val (.int p1), .val (.long q2), .second, .val (.int p3), .val (.int (Int32.ofNat off)), .val (.int (Int32.ofNat nb)), .val (.int (if neg = true then (1 : Int32) else 0)), .val (.int (Int32.ofNat ni)), .val (.int (if pt = true then (1 : Int32) else 0)), .val (.int (Int32.ofNat nf)), .val (.int (Int32.ofNat nt)), .val (.int bg), .unset, .unset, .unset, .unset, .unset, .unset, .unset] [(.int (21 : Int32)), (.ref b7), (.ref b7)]))
  refine own_go (fun t_ k_ => XS.iload A195.here hx rfl (hb hby at_215) rfl k_) ?_
  show own_Go _ _ _ _ (T194.setTop (mkF m 217 #[.val (.int p0), .val (.int p1), .val (.long q2), .second, .val (.int p3), .val (.int (Int32.ofNat off)), .val (.int (Int32.ofNat nb)), .val (.int (if neg = true then (1 : Int32) else 0)), .val (.int (Int32.ofNat ni)), .val (.int (if pt = true then (1 : Int32) else 0)), .val (.int (Int32.ofNat nf)), .val (.int (Int32.ofNat nt)), .val (.int bg), .unset, .unset, .unset, .unset, .unset, .unset, .unset] [(.int bg), (.int (21 : Int32)), (.ref b7), (.ref b7)]))
  refine own_stB A195 hx hZ V202 ⟨by decide, by decide⟩ g_b7 rfl rfl (hb hby at_217) (fun T203 h205 A204 W206 V207 => ?_)
  have Y208 : 0 ≤ h205.size := Nat.le_trans Y199 (Nat.le_of_eq (Wr.size W206).symm)
  have O209 : Old Z n0 h205 := O200.wr W206 g_b7
  have Z210 : n0 ≤ h205.size := Nat.le_trans Z201 (Nat.le_of_eq (Wr.size W206).symm)
  have V211 : own_Arr Z h205 b7 .byte (22 : Int32) (fun i => if i = (21 : Int32) then nar .byte bg else (fun i => if i = (20 : Int32) then nar .byte bg else (fun i => if i = (19 : Int32) then nar .byte bg else (fun i => if i = (18 : Int32) then nar .byte bg else (fun i => if i = (17 : Int32) then nar .byte bg else (fun i => if i = (16 : Int32) then nar .byte bg else (fun i => if i = (15 : Int32) then nar .byte bg else (fun i => if i = (14 : Int32) then nar .byte bg else (fun i => if i = (13 : Int32) then nar .byte bg else (fun i => if i = (12 : Int32) then nar .byte bg else (fun i => if i = (11 : Int32) then nar .byte bg else (fun i => if i = (10 : Int32) then nar .byte bg else (fun i => if i = (9 : Int32) then nar .byte bg else (fun i => if i = (8 : Int32) then nar .byte bg else (fun i => if i = (7 : Int32) then nar .byte bg else (fun i => if i = (6 : Int32) then nar .byte bg else (fun i => if i = (5 : Int32) then nar .byte bg else (fun i => if i = (4 : Int32) then nar .byte bg else (fun i => if i = (3 : Int32) then nar .byte bg else (fun i => if i = (2 : Int32) then nar .byte bg else (fun i => if i = (1 : Int32) then nar .byte bg else (fun i => if i = (0 : Int32) then nar .byte bg else (fun _ => 0) i) i) i) i) i) i) i) i) i) i) i) i) i) i) i) i) i) i) i) i) i) i) := V207
  show own_Go _ _ _ _ (T203.setTop (mkF m 218 #[.val (.int p0), .val (.int p1), .val (.long q2), .second, .val (.int p3), .val (.int (Int32.ofNat off)), .val (.int (Int32.ofNat nb)), .val (.int (if neg = true then (1 : Int32) else 0)), .val (.int (Int32.ofNat ni)), .val (.int (if pt = true then (1 : Int32) else 0)), .val (.int (Int32.ofNat nf)), .val (.int (Int32.ofNat nt)), .val (.int bg), .unset, .unset, .unset, .unset, .unset, .unset, .unset] [(.ref b7)]))
  obtain ⟨fb, hfb⟩ : ∃ fb : Int32 → Int32, fb = (fun i => if i = (21 : Int32) then nar .byte bg else (fun i => if i = (20 : Int32) then nar .byte bg else (fun i => if i = (19 : Int32) then nar .byte bg else (fun i => if i = (18 : Int32) then nar .byte bg else (fun i => if i = (17 : Int32) then nar .byte bg else (fun i => if i = (16 : Int32) then nar .byte bg else (fun i => if i = (15 : Int32) then nar .byte bg else (fun i => if i = (14 : Int32) then nar .byte bg else (fun i => if i = (13 : Int32) then nar .byte bg else (fun i => if i = (12 : Int32) then nar .byte bg else (fun i => if i = (11 : Int32) then nar .byte bg else (fun i => if i = (10 : Int32) then nar .byte bg else (fun i => if i = (9 : Int32) then nar .byte bg else (fun i => if i = (8 : Int32) then nar .byte bg else (fun i => if i = (7 : Int32) then nar .byte bg else (fun i => if i = (6 : Int32) then nar .byte bg else (fun i => if i = (5 : Int32) then nar .byte bg else (fun i => if i = (4 : Int32) then nar .byte bg else (fun i => if i = (3 : Int32) then nar .byte bg else (fun i => if i = (2 : Int32) then nar .byte bg else (fun i => if i = (1 : Int32) then nar .byte bg else (fun i => if i = (0 : Int32) then nar .byte bg else (fun _ => 0) i) i) i) i) i) i) i) i) i) i) i) i) i) i) i) i) i) i) i) i) i) i) := ⟨_, rfl⟩
  rw [← hfb] at V211
  have hI0 : own_Inv off fb [] := ⟨fun i hi => own_fill hbg hfb i (by omega), fun j hj => absurd hj (Nat.not_lt_zero _), fun j hj => absurd hj (Nat.not_lt_zero _)⟩
  refine own_go (fun t_ k_ => XS.astore A204.here hx rfl (hb hby at_218) rfl rfl (l' := #[.val (.int p0), .val (.int p1), .val (.long q2), .second, .val (.int p3), .val (.int (Int32.ofNat off)), .val (.int (Int32.ofNat nb)), .val (.int (if neg = true then (1 : Int32) else 0)), .val (.int (Int32.ofNat ni)), .val (.int (if pt = true then (1 : Int32) else 0)), .val (.int (Int32.ofNat nf)), .val (.int (Int32.ofNat nt)), .val (.int bg), .val (.ref b7), .unset, .unset, .unset, .unset, .unset, .unset]) rfl k_) ?_
  show own_Go _ _ _ _ (T203.setTop (mkF m 220 #[.val (.int p0), .val (.int p1), .val (.long q2), .second, .val (.int p3), .val (.int (Int32.ofNat off)), .val (.int (Int32.ofNat nb)), .val (.int (if neg = true then (1 : Int32) else 0)), .val (.int (Int32.ofNat ni)), .val (.int (if pt = true then (1 : Int32) else 0)), .val (.int (Int32.ofNat nf)), .val (.int (Int32.ofNat nt)), .val (.int bg), .val (.ref b7), .unset, .unset, .unset, .unset, .unset, .unset] []))
  refine own_go (fun t_ k_ => XS.iload A204.here hx rfl (hb hby at_220) rfl k_) ?_
  show own_Go _ _ _ _ (T203.setTop (mkF m 222 #[.val (.int p0), .val (.int p1), .val (.long q2), .second, .val (.int p3), .val (.int (Int32.ofNat off)), .val (.int (Int32.ofNat nb)), .val (.int (if neg = true then (1 : Int32) else 0)), .val (.int (Int32.ofNat ni)), .val (.int (if pt = true then (1 : Int32) else 0)), .val (.int (Int32.ofNat nf)), .val (.int (Int32.ofNat nt)), .val (.int bg), .val (.ref b7), .unset, .unset, .unset, .unset, .unset, .unset] [(.int (Int32.ofNat off))]))
  refine own_go (fun t_ k_ => XS.istore A204.here hx rfl (hb hby at_222) rfl (l' := #[.val (.int p0), .val (.int p1), .val (.long q2), .second, .val (.int p3), .val (.int (Int32.ofNat off)), .val (.int (Int32.ofNat nb)), .val (.int (if neg = true then (1 : Int32) else 0)), .val (.int (Int32.ofNat ni)), .val (.int (if pt = true then (1 : Int32) else 0)), .val (.int (Int32.ofNat nf)), .val (.int (Int32.ofNat nt)), .val (.int bg), .val (.ref b7), .val (.int (Int32.ofNat off)), .unset, .unset, .unset, .unset, .unset]) rfl k_) ?_
  show own_Go _ _ _ _ (T203.setTop (mkF m 224 #[.val (.int p0), .val (.int p1), .val (.long q2), .second, .val (.int p3), .val (.int (Int32.ofNat off)), .val (.int (Int32.ofNat nb)), .val (.int (if neg = true then (1 : Int32) else 0)), .val (.int (Int32.ofNat ni)), .val (.int (if pt = true then (1 : Int32) else 0)), .val (.int (Int32.ofNat nf)), .val (.int (Int32.ofNat nt)), .val (.int bg), .val (.ref b7), .val (.int (Int32.ofNat off)), .unset, .unset, .unset, .unset, .unset] []))
  refine own_go (fun t_ k_ => XS.iload A204.here hx rfl (hb hby at_224) rfl k_) ?_
  show own_Go _ _ _ _ (T203.setTop (mkF m 226 #[.val (.int p0), .val (.int p1), .val (.long q2), .second, .val (.int p3), .val (.int (Int32.ofNat off)), .val (.int (Int32.ofNat nb)), .val (.int (if neg = true then (1 : Int32) else 0)), .val (.int (Int32.ofNat ni)), .val (.int (if pt = true then (1 : Int32) else 0)), .val (.int (Int32.ofNat nf)), .val (.int (Int32.ofNat nt)), .val (.int bg), .val (.ref b7), .val (.int (Int32.ofNat off)), .unset, .unset, .unset, .unset, .unset] [(.int (Int32.ofNat off))]))
  refine own_go (fun t_ k_ => XS.istore A204.here hx rfl (hb hby at_226) rfl (l' := #[.val (.int p0), .val (.int p1), .val (.long q2), .second, .val (.int p3), .val (.int (Int32.ofNat off)), .val (.int (Int32.ofNat nb)), .val (.int (if neg = true then (1 : Int32) else 0)), .val (.int (Int32.ofNat ni)), .val (.int (if pt = true then (1 : Int32) else 0)), .val (.int (Int32.ofNat nf)), .val (.int (Int32.ofNat nt)), .val (.int bg), .val (.ref b7), .val (.int (Int32.ofNat off)), .val (.int (Int32.ofNat off)), .unset, .unset, .unset, .unset]) rfl k_) ?_
  show own_Go _ _ _ _ (T203.setTop (mkF m 228 #[.val (.int p0), .val (.int p1), .val (.long q2), .second, .val (.int p3), .val (.int (Int32.ofNat off)), .val (.int (Int32.ofNat nb)), .val (.int (if neg = true then (1 : Int32) else 0)), .val (.int (Int32.ofNat ni)), .val (.int (if pt = true then (1 : Int32) else 0)), .val (.int (Int32.ofNat nf)), .val (.int (Int32.ofNat nt)), .val (.int bg), .val (.ref b7), .val (.int (Int32.ofNat off)), .val (.int (Int32.ofNat off)), .unset, .unset, .unset, .unset] []))
  refine own_go (fun t_ k_ => XS.aload A204.here hx rfl (hb hby at_228) rfl rfl k_) ?_
  show own_Go _ _ _ _ (T203.setTop (mkF m 230 #[.val (.int p0), .val (.int p1), .val (.long q2), .second, .val (.int p3), .val (.int (Int32.ofNat off)), .val (.int (Int32.ofNat nb)), .val (.int (if neg = true then (1 : Int32) else 0)), .val (.int (Int32.ofNat ni)), .val (.int (if pt = true then (1 : Int32) else 0)), .val (.int (Int32.ofNat nf)), .val (.int (Int32.ofNat nt)), .val (.int bg), .val (.ref b7), .val (.int (Int32.ofNat off)), .val (.int (Int32.ofNat off)), .unset, .unset, .unset, .unset] [(.ref b7)]))
  refine own_go (fun t_ k_ => XS.iload A204.here hx rfl (hb hby at_230) rfl k_) ?_
  show own_Go _ _ _ _ (T203.setTop (mkF m 232 #[.val (.int p0), .val (.int p1), .val (.long q2), .second, .val (.int p3), .val (.int (Int32.ofNat off)), .val (.int (Int32.ofNat nb)), .val (.int (if neg = true then (1 : Int32) else 0)), .val (.int (Int32.ofNat ni)), .val (.int (if pt = true then (1 : Int32) else 0)), .val (.int (Int32.ofNat nf)), .val (.int (Int32.ofNat nt)), .val (.int bg), .val (.ref b7), .val (.int (Int32.ofNat off)), .val (.int (Int32.ofNat off)), .unset, .unset, .unset, .unset] [(.int (Int32.ofNat off)), (.ref b7)]))
  refine own_go (fun t_ k_ => XS.iload A204.here hx rfl (hb hby at_232) rfl k_) ?_
  show own_Go _ _ _ _ (T203.setTop (mkF m 234 #[.val (.int p0), .val (.int p1), .val (.long q2), .second, .val (.int p3), .val (.int (Int32.ofNat off)), .val (.int (Int32.ofNat nb)), .val (.int (if neg = true then (1 : Int32) else 0)), .val (.int (Int32.ofNat ni)), .val (.int (if pt = true then (1 : Int32) else 0)), .val (.int (Int32.ofNat nf)), .val (.int (Int32.ofNat nt)), .val (.int bg), .val (.ref b7), .val (.int (Int32.ofNat off)), .val (.int (Int32.ofNat off)), .unset, .unset, .unset, .unset] [(.int (Int32.ofNat nb)), (.int (Int32.ofNat off)), (.ref b7)]))
  have mg212 : ∀ t_, Steps p.tables e below (T203.setTop (mkF m 242 #[.val (.int p0), .val (.int p1), .val (.long q2), .second, .val (.int p3), .val (.int (Int32.ofNat off)), .val (.int (Int32.ofNat nb)), .val (.int (if neg = true then (1 : Int32) else 0)), .val (.int (Int32.ofNat ni)), .val (.int (if pt = true then (1 : Int32) else 0)), .val (.int (Int32.ofNat nf)), .val (.int (Int32.ofNat nt)), .val (.int bg), .val (.ref b7), .val (.int (Int32.ofNat off)), .val (.int (Int32.ofNat off)), .unset, .unset, .unset, .unset] [(.int (if (0 : Int32) < (Int32.ofNat nb) then (1 : Int32) else (0 : Int32))), (.int (Int32.ofNat off)), (.ref b7)])) t_ → Steps p.tables e below (T203.setTop (mkF m 234 #[.val (.int p0), .val (.int p1), .val (.long q2), .second, .val (.int p3), .val (.int (Int32.ofNat off)), .val (.int (Int32.ofNat nb)), .val (.int (if neg = true then (1 : Int32) else 0)), .val (.int (Int32.ofNat ni)), .val (.int (if pt = true then (1 : Int32) else 0)), .val (.int (Int32.ofNat nf)), .val (.int (Int32.ofNat nt)), .val (.int bg), .val (.ref b7), .val (.int (Int32.ofNat off)), .val (.int (Int32.ofNat off)), .unset, .unset, .unset, .unset] [(.int (Int32.ofNat nb)), (.int (Int32.ofNat off)), (.ref b7)])) t_ := by
    intro t_ k_
    by_cases hm234_0 : (0 : Int32) < (Int32.ofNat nb)
    ·
      simp only [if_pos hm234_0] at k_
      exact (XS.ifNo A204.here hx rfl (hb hby at_234) rfl ((if0 _ _).trans (tlt hm234_0).2.2.2) (XS.iconst A204.here hx rfl (hb hby at_237) (XS.goto A204.here hx rfl (pc0 := 238) (pc' := 242) rfl (hb hby at_238) (by decide) (by decide) k_)))
    ·
      simp only [if_neg hm234_0] at k_
      exact (XS.ifYes A204.here hx rfl (pc0 := 234) (pc' := 241) rfl (hb hby at_234) rfl ((if0 _ _).trans (flt hm234_0).2.2.2) (by decide) (by decide) (XS.iconst A204.here hx rfl (hb hby at_241) k_))
  refine own_go mg212 ?_
  show own_Go _ _ _ _ (T203.setTop (mkF m 242 #[.val (.int p0), .val (.int p1), .val (.long q2), .second, .val (.int p3), .val (.int (Int32.ofNat off)), .val (.int (Int32.ofNat nb)), .val (.int (if neg = true then (1 : Int32) else 0)), .val (.int (Int32.ofNat ni)), .val (.int (if pt = true then (1 : Int32) else 0)), .val (.int (Int32.ofNat nf)), .val (.int (Int32.ofNat nt)), .val (.int bg), .val (.ref b7), .val (.int (Int32.ofNat off)), .val (.int (Int32.ofNat off)), .unset, .unset, .unset, .unset] [(.int (if (0 : Int32) < (Int32.ofNat nb) then (1 : Int32) else (0 : Int32))), (.int (Int32.ofNat off)), (.ref b7)]))
  refine own_go (fun t_ k_ => XS.iloadN A204.here hx rfl (hb hby at_242) rfl k_) ?_
  show own_Go _ _ _ _ (T203.setTop (mkF m 243 #[.val (.int p0), .val (.int p1), .val (.long q2), .second, .val (.int p3), .val (.int (Int32.ofNat off)), .val (.int (Int32.ofNat nb)), .val (.int (if neg = true then (1 : Int32) else 0)), .val (.int (Int32.ofNat ni)), .val (.int (if pt = true then (1 : Int32) else 0)), .val (.int (Int32.ofNat nf)), .val (.int (Int32.ofNat nt)), .val (.int bg), .val (.ref b7), .val (.int (Int32.ofNat off)), .val (.int (Int32.ofNat off)), .unset, .unset, .unset, .unset] [(.int p1), (.int (if (0 : Int32) < (Int32.ofNat nb) then (1 : Int32) else (0 : Int32))), (.int (Int32.ofNat off)), (.ref b7)]))
  refine own_go (fun t_ k_ => XS.iconst A204.here hx rfl (hb hby at_243) k_) ?_
  show own_Go _ _ _ _ (T203.setTop (mkF m 244 #[.val (.int p0), .val (.int p1), .val (.long q2), .second, .val (.int p3), .val (.int (Int32.ofNat off)), .val (.int (Int32.ofNat nb)), .val (.int (if neg = true then (1 : Int32) else 0)), .val (.int (Int32.ofNat ni)), .val (.int (if pt = true then (1 : Int32) else 0)), .val (.int (Int32.ofNat nf)), .val (.int (Int32.ofNat nt)), .val (.int bg), .val (.ref b7), .val (.int (Int32.ofNat off)), .val (.int (Int32.ofNat off)), .unset, .unset, .unset, .unset] [(.int (0 : Int32)), (.int p1), (.int (if (0 : Int32) < (Int32.ofNat nb) then (1 : Int32) else (0 : Int32))), (.int (Int32.ofNat off)), (.ref b7)]))
  refine own_callS A204 hx hZ hown (y := (⟨"com/example/indexloom/indexloom/data/DataLineScalePinLaw", "blank", "(II)B"⟩ : MethodName)) (hw _ (List.mem_of_getElem? (i := 1) rfl)) (hw _ (List.mem_of_getElem? (i := 2) rfl)) (hw _ (List.mem_of_getElem? (i := 3) rfl)) (hw _ (List.mem_of_getElem? (i := 4) rfl)) (by decide) (argsL := [(.int p1), (.int (0 : Int32))]) (rest := [(.int (if (0 : Int32) < (Int32.ofNat nb) then (1 : Int32) else (0 : Int32))), (.int (Int32.ofNat off)), (.ref b7)]) (rm1 l Z a0 hw p1 (0 : Int32) h205 n0 ) 3 (by decide) (by decide) rfl (by rw [hml]; rfl) (lenOf pd__II_B rfl) rfl (by show 2 * 0 + _ ≤ _; exact Nat.le_of_eq rfl) (hb hby at_244) (by decide) (by decide) (fun v216 T213 h215 A214 hQ217 => ?_)
  obtain ⟨rfl, rfl⟩ := hQ217
  show own_Go _ _ _ _ (T213.setTop (mkF m 247 #[.val (.int p0), .val (.int p1), .val (.long q2), .second, .val (.int p3), .val (.int (Int32.ofNat off)), .val (.int (Int32.ofNat nb)), .val (.int (if neg = true then (1 : Int32) else 0)), .val (.int (Int32.ofNat ni)), .val (.int (if pt = true then (1 : Int32) else 0)), .val (.int (Int32.ofNat nf)), .val (.int (Int32.ofNat nt)), .val (.int bg), .val (.ref b7), .val (.int (Int32.ofNat off)), .val (.int (Int32.ofNat off)), .unset, .unset, .unset, .unset] [(.int (f1 p1 (0 : Int32))), (.int (if (0 : Int32) < (Int32.ofNat nb) then (1 : Int32) else (0 : Int32))), (.int (Int32.ofNat off)), (.ref b7)]))
  refine own_callS A214 hx hZ hown (y := (⟨"com/example/indexloom/indexloom/data/DataLineScalePinLaw", "put", "([BIZB)I"⟩ : MethodName)) (hw _ (List.mem_of_getElem? (i := 5) rfl)) (hw _ (List.mem_of_getElem? (i := 6) rfl)) (hw _ (List.mem_of_getElem? (i := 3) rfl)) (hw _ (List.mem_of_getElem? (i := 7) rfl)) (by decide) (argsL := [(.ref b7), (.int (Int32.ofNat off)), (.int (if (0 : Int32) < (Int32.ofNat nb) then (1 : Int32) else (0 : Int32))), (.int (f1 p1 (0 : Int32)))]) (rest := []) (rm2 l Z a0 hw b7 (if (0 : Int32) < (Int32.ofNat nb) then (1 : Int32) else (0 : Int32)) (f1 p1 (0 : Int32)) off ([] : List Nat) fb (decide (0 < nb)) 0 h205 n0 V211 g_b7 (by show off + 0 < 22; omega) hI0 (own_gt nb 0 (by omega) (by decide)) (own_kblank _ _) (by decide)) 0 (by decide) (by decide) rfl (by rw [hml]; rfl) (lenOf pd___BIZB_I rfl) rfl (by show 2 * 0 + _ ≤ _; exact Nat.le_of_eq rfl) (hb hby at_247) (by decide) (by decide) (fun v221 T218 h220 A219 hQ222 => ?_)
  obtain ⟨K223, fb224, rfl, V225, I226⟩ := hQ222
  have hl229 := Nat.le_trans (own_app_len ([] : List Nat) (decide (0 < nb)) 0) (Nat.succ_le_succ (Nat.le_refl 0))
  generalize ek228 : own_app ([] : List Nat) (decide (0 < nb)) 0 = ks227 at I226 hl229
  have Y230 : 0 ≤ h220.size := Nat.le_trans Y208 K223.1
  have O231 : Old Z n0 h220 := O209.keep K223 (allS g_b7 all0)
  have Z232 : n0 ≤ h220.size := Nat.le_trans Z210 K223.1
  show own_Go _ _ _ _ (T218.setTop (mkF m 250 #[.val (.int p0), .val (.int p1), .val (.long q2), .second, .val (.int p3), .val (.int (Int32.ofNat off)), .val (.int (Int32.ofNat nb)), .val (.int (if neg = true then (1 : Int32) else 0)), .val (.int (Int32.ofNat ni)), .val (.int (if pt = true then (1 : Int32) else 0)), .val (.int (Int32.ofNat nf)), .val (.int (Int32.ofNat nt)), .val (.int bg), .val (.ref b7), .val (.int (Int32.ofNat off)), .val (.int (Int32.ofNat off)), .unset, .unset, .unset, .unset] [(.int (Int32.ofNat (off + ks227.length)))]))
  refine own_go (fun t_ k_ => XS.istore A219.here hx rfl (hb hby at_250) rfl (l' := #[.val (.int p0), .val (.int p1), .val (.long q2), .second, .val (.int p3), .val (.int (Int32.ofNat off)), .val (.int (Int32.ofNat nb)), .val (.int (if neg = true then (1 : Int32) else 0)), .val (.int (Int32.ofNat ni)), .val (.int (if pt = true then (1 : Int32) else 0)), .val (.int (Int32.ofNat nf)), .val (.int (Int32.ofNat nt)), .val (.int bg), .val (.ref b7), .val (.int (Int32.ofNat (off + ks227.length))), .val (.int (Int32.ofNat off)), .unset, .unset, .unset, .unset]) rfl k_) ?_
  show own_Go _ _ _ _ (T218.setTop (mkF m 252 #[.val (.int p0), .val (.int p1), .val (.long q2), .second, .val (.int p3), .val (.int (Int32.ofNat off)), .val (.int (Int32.ofNat nb)), .val (.int (if neg = true then (1 : Int32) else 0)), .val (.int (Int32.ofNat ni)), .val (.int (if pt = true then (1 : Int32) else 0)), .val (.int (Int32.ofNat nf)), .val (.int (Int32.ofNat nt)), .val (.int bg), .val (.ref b7), .val (.int (Int32.ofNat (off + ks227.length))), .val (.int (Int32.ofNat off)), .unset, .unset, .unset, .unset] []))
  refine own_go (fun t_ k_ => XS.aload A219.here hx rfl (hb hby at_252) rfl rfl k_) ?_
  show own_Go _ _ _ _ (T218.setTop (mkF m 254 #[.val (.int p0), .val (.int p1), .val (.long q2), .second, .val (.int p3), .val (.int (Int32.ofNat off)), .val (.int (Int32.ofNat nb)), .val (.int (if neg = true then (1 : Int32) else 0)), .val (.int (Int32.ofNat ni)), .val (.int (if pt = true then (1 : Int32) else 0)), .val (.int (Int32.ofNat nf)), .val (.int (Int32.ofNat nt)), .val (.int bg), .val (.ref b7), .val (.int (Int32.ofNat (off + ks227.length))), .val (.int (Int32.ofNat off)), .unset, .unset, .unset, .unset] [(.ref b7)]))
  refine own_go (fun t_ k_ => XS.iload A219.here hx rfl (hb hby at_254) rfl k_) ?_
  show own_Go _ _ _ _ (T218.setTop (mkF m 256 #[.val (.int p0), .val (.int p1), .val (.long q2), .second, .val (.int p3), .val (.int (Int32.ofNat off)), .val (.int (Int32.ofNat nb)), .val (.int (if neg = true then (1 : Int32) else 0)), .val (.int (Int32.ofNat ni)), .val (.int (if pt = true then (1 : Int32) else 0)), .val (.int (Int32.ofNat nf)), .val (.int (Int32.ofNat nt)), .val (.int bg), .val (.ref b7), .val (.int (Int32.ofNat (off + ks227.length))), .val (.int (Int32.ofNat off)), .unset, .unset, .unset, .unset] [(.int (Int32.ofNat (off + ks227.length))), (.ref b7)]))
  refine own_go (fun t_ k_ => XS.iload A219.here hx rfl (hb hby at_256) rfl k_) ?_
  show own_Go _ _ _ _ (T218.setTop (mkF m 258 #[.val (.int p0), .val (.int p1), .val (.long q2), .second, .val (.int p3), .val (.int (Int32.ofNat off)), .val (.int (Int32.ofNat nb)), .val (.int (if neg = true then (1 : Int32) else 0)), .val (.int (Int32.ofNat ni)), .val (.int (if pt = true then (1 : Int32) else 0)), .val (.int (Int32.ofNat nf)), .val (.int (Int32.ofNat nt)), .val (.int bg), .val (.ref b7), .val (.int (Int32.ofNat (off + ks227.length))), .val (.int (Int32.ofNat off)), .unset, .unset, .unset, .unset] [(.int (Int32.ofNat nb)), (.int (Int32.ofNat (off + ks227.length))), (.ref b7)]))
  refine own_go (fun t_ k_ => XS.iconst A219.here hx rfl (hb hby at_258) k_) ?_
  show own_Go _ _ _ _ (T218.setTop (mkF m 259 #[.val (.int p0), .val (.int p1), .val (.long q2), .second, .val (.int p3), .val (.int (Int32.ofNat off)), .val (.int (Int32.ofNat nb)), .val (.int (if neg = true then (1 : Int32) else 0)), .val (.int (Int32.ofNat ni)), .val (.int (if pt = true then (1 : Int32) else 0)), .val (.int (Int32.ofNat nf)), .val (.int (Int32.ofNat nt)), .val (.int bg), .val (.ref b7), .val (.int (Int32.ofNat (off + ks227.length))), .val (.int (Int32.ofNat off)), .unset, .unset, .unset, .unset] [(.int (1 : Int32)), (.int (Int32.ofNat nb)), (.int (Int32.ofNat (off + ks227.length))), (.ref b7)]))
  have mg233 : ∀ t_, Steps p.tables e below (T218.setTop (mkF m 267 #[.val (.int p0), .val (.int p1), .val (.long q2), .second, .val (.int p3), .val (.int (Int32.ofNat off)), .val (.int (Int32.ofNat nb)), .val (.int (if neg = true then (1 : Int32) else 0)), .val (.int (Int32.ofNat ni)), .val (.int (if pt = true then (1 : Int32) else 0)), .val (.int (Int32.ofNat nf)), .val (.int (Int32.ofNat nt)), .val (.int bg), .val (.ref b7), .val (.int (Int32.ofNat (off + ks227.length))), .val (.int (Int32.ofNat off)), .unset, .unset, .unset, .unset] [(.int (if (1 : Int32) < (Int32.ofNat nb) then (1 : Int32) else (0 : Int32))), (.int (Int32.ofNat (off + ks227.length))), (.ref b7)])) t_ → Steps p.tables e below (T218.setTop (mkF m 259 #[.val (.int p0), .val (.int p1), .val (.long q2), .second, .val (.int p3), .val (.int (Int32.ofNat off)), .val (.int (Int32.ofNat nb)), .val (.int (if neg = true then (1 : Int32) else 0)), .val (.int (Int32.ofNat ni)), .val (.int (if pt = true then (1 : Int32) else 0)), .val (.int (Int32.ofNat nf)), .val (.int (Int32.ofNat nt)), .val (.int bg), .val (.ref b7), .val (.int (Int32.ofNat (off + ks227.length))), .val (.int (Int32.ofNat off)), .unset, .unset, .unset, .unset] [(.int (1 : Int32)), (.int (Int32.ofNat nb)), (.int (Int32.ofNat (off + ks227.length))), (.ref b7)])) t_ := by
    intro t_ k_
    by_cases hm259_0 : (1 : Int32) < (Int32.ofNat nb)
    ·
      simp only [if_pos hm259_0] at k_
      exact (XS.icmpNo A219.here hx rfl (hb hby at_259) rfl (tlt hm259_0).2.2.2 (XS.iconst A219.here hx rfl (hb hby at_262) (XS.goto A219.here hx rfl (pc0 := 263) (pc' := 267) rfl (hb hby at_263) (by decide) (by decide) k_)))
    ·
      simp only [if_neg hm259_0] at k_
      exact (XS.icmpYes A219.here hx rfl (pc0 := 259) (pc' := 266) rfl (hb hby at_259) rfl (flt hm259_0).2.2.2 (by decide) (by decide) (XS.iconst A219.here hx rfl (hb hby at_266) k_))
  refine own_go mg233 ?_
  show own_Go _ _ _ _ (T218.setTop (mkF m 267 #[.val (.int p0), .val (.int p1), .val (.long q2), .second, .val (.int p3), .val (.int (Int32.ofNat off)), .val (.int (Int32.ofNat nb)), .val (.int (if neg = true then (1 : Int32) else 0)), .val (.int (Int32.ofNat ni)), .val (.int (if pt = true then (1 : Int32) else 0)), .val (.int (Int32.ofNat nf)), .val (.int (Int32.ofNat nt)), .val (.int bg), .val (.ref b7), .val (.int (Int32.ofNat (off + ks227.length))), .val (.int (Int32.ofNat off)), .unset, .unset, .unset, .unset] [(.int (if (1 : Int32) < (Int32.ofNat nb) then (1 : Int32) else (0 : Int32))), (.int (Int32.ofNat (off + ks227.length))), (.ref b7)]))
  refine own_go (fun t_ k_ => XS.iloadN A219.here hx rfl (hb hby at_267) rfl k_) ?_
  show own_Go _ _ _ _ (T218.setTop (mkF m 268 #[.val (.int p0), .val (.int p1), .val (.long q2), .second, .val (.int p3), .val (.int (Int32.ofNat off)), .val (.int (Int32.ofNat nb)), .val (.int (if neg = true then (1 : Int32) else 0)), .val (.int (Int32.ofNat ni)), .val (.int (if pt = true then (1 : Int32) else 0)), .val (.int (Int32.ofNat nf)), .val (.int (Int32.ofNat nt)), .val (.int bg), .val (.ref b7), .val (.int (Int32.ofNat (off + ks227.length))), .val (.int (Int32.ofNat off)), .unset, .unset, .unset, .unset] [(.int p1), (.int (if (1 : Int32) < (Int32.ofNat nb) then (1 : Int32) else (0 : Int32))), (.int (Int32.ofNat (off + ks227.length))), (.ref b7)]))
  refine own_go (fun t_ k_ => XS.iconst A219.here hx rfl (hb hby at_268) k_) ?_
  show own_Go _ _ _ _ (T218.setTop (mkF m 269 #[.val (.int p0), .val (.int p1), .val (.long q2), .second, .val (.int p3), .val (.int (Int32.ofNat off)), .val (.int (Int32.ofNat nb)), .val (.int (if neg = true then (1 : Int32) else 0)), .val (.int (Int32.ofNat ni)), .val (.int (if pt = true then (1 : Int32) else 0)), .val (.int (Int32.ofNat nf)), .val (.int (Int32.ofNat nt)), .val (.int bg), .val (.ref b7), .val (.int (Int32.ofNat (off + ks227.length))), .val (.int (Int32.ofNat off)), .unset, .unset, .unset, .unset] [(.int (1 : Int32)), (.int p1), (.int (if (1 : Int32) < (Int32.ofNat nb) then (1 : Int32) else (0 : Int32))), (.int (Int32.ofNat (off + ks227.length))), (.ref b7)]))
  refine own_callS A219 hx hZ hown (y := (⟨"com/example/indexloom/indexloom/data/DataLineScalePinLaw", "blank", "(II)B"⟩ : MethodName)) (hw _ (List.mem_of_getElem? (i := 1) rfl)) (hw _ (List.mem_of_getElem? (i := 2) rfl)) (hw _ (List.mem_of_getElem? (i := 3) rfl)) (hw _ (List.mem_of_getElem? (i := 4) rfl)) (by decide) (argsL := [(.int p1), (.int (1 : Int32))]) (rest := [(.int (if (1 : Int32) < (Int32.ofNat nb) then (1 : Int32) else (0 : Int32))), (.int (Int32.ofNat (off + ks227.length))), (.ref b7)]) (rm1 l Z a0 hw p1 (1 : Int32) h220 n0 ) 3 (by decide) (by decide) rfl (by rw [hml]; rfl) (lenOf pd__II_B rfl) rfl (by show 2 * 0 + _ ≤ _; exact Nat.le_of_eq rfl) (hb hby at_269) (by decide) (by decide) (fun v237 T234 h236 A235 hQ238 => ?_)
  obtain ⟨rfl, rfl⟩ := hQ238
  show own_Go _ _ _ _ (T234.setTop (mkF m 272 #[.val (.int p0), .val (.int p1), .val (.long q2), .second, .val (.int p3), .val (.int (Int32.ofNat off)), .val (.int (Int32.ofNat nb)), .val (.int (if neg = true then (1 : Int32) else 0)), .val (.int (Int32.ofNat ni)), .val (.int (if pt = true then (1 : Int32) else 0)), .val (.int (Int32.ofNat nf)), .val (.int (Int32.ofNat nt)), .val (.int bg), .val (.ref b7), .val (.int (Int32.ofNat (off + ks227.length))), .val (.int (Int32.ofNat off)), .unset, .unset, .unset, .unset] [(.int (f1 p1 (1 : Int32))), (.int (if (1 : Int32) < (Int32.ofNat nb) then (1 : Int32) else (0 : Int32))), (.int (Int32.ofNat (off + ks227.length))), (.ref b7)]))
  refine own_callS A235 hx hZ hown (y := (⟨"com/example/indexloom/indexloom/data/DataLineScalePinLaw", "put", "([BIZB)I"⟩ : MethodName)) (hw _ (List.mem_of_getElem? (i := 5) rfl)) (hw _ (List.mem_of_getElem? (i := 6) rfl)) (hw _ (List.mem_of_getElem? (i := 3) rfl)) (hw _ (List.mem_of_getElem? (i := 7) rfl)) (by decide) (argsL := [(.ref b7), (.int (Int32.ofNat (off + ks227.length))), (.int (if (1 : Int32) < (Int32.ofNat nb) then (1 : Int32) else (0 : Int32))), (.int (f1 p1 (1 : Int32)))]) (rest := []) (rm2 l Z a0 hw b7 (if (1 : Int32) < (Int32.ofNat nb) then (1 : Int32) else (0 : Int32)) (f1 p1 (1 : Int32)) off ks227 fb224 (decide (1 < nb)) 0 h220 n0 V225 g_b7 (by omega) I226 (own_gt nb 1 (by omega) (by decide)) (own_kblank _ _) (by decide)) 0 (by decide) (by decide) rfl (by rw [hml]; rfl) (lenOf pd___BIZB_I rfl) rfl (by show 2 * 0 + _ ≤ _; exact Nat.le_of_eq rfl) (hb hby at_272) (by decide) (by decide) (fun v242 T239 h241 A240 hQ243 => ?_)
  obtain ⟨K244, fb245, rfl, V246, I247⟩ := hQ243
  have hl250 := Nat.le_trans (own_app_len ks227 (decide (1 < nb)) 0) (Nat.succ_le_succ hl229)
  generalize ek249 : own_app ks227 (decide (1 < nb)) 0 = ks248 at I247 hl250
  have Y251 : 0 ≤ h241.size := Nat.le_trans Y230 K244.1
  have O252 : Old Z n0 h241 := O231.keep K244 (allS g_b7 all0)
  have Z253 : n0 ≤ h241.size := Nat.le_trans Z232 K244.1
  show own_Go _ _ _ _ (T239.setTop (mkF m 275 #[.val (.int p0), .val (.int p1), .val (.long q2), .second, .val (.int p3), .val (.int (Int32.ofNat off)), .val (.int (Int32.ofNat nb)), .val (.int (if neg = true then (1 : Int32) else 0)), .val (.int (Int32.ofNat ni)), .val (.int (if pt = true then (1 : Int32) else 0)), .val (.int (Int32.ofNat nf)), .val (.int (Int32.ofNat nt)), .val (.int bg), .val (.ref b7), .val (.int (Int32.ofNat (off + ks227.length))), .val (.int (Int32.ofNat off)), .unset, .unset, .unset, .unset] [(.int (Int32.ofNat (off + ks248.length)))]))
  refine own_go (fun t_ k_ => XS.istore A240.here hx rfl (hb hby at_275) rfl (l' := #[.val (.int p0), .val (.int p1), .val (.long q2), .second, .val (.int p3), .val (.int (Int32.ofNat off)), .val (.int (Int32.ofNat nb)), .val (.int (if neg = true then (1 : Int32) else 0)), .val (.int (Int32.ofNat ni)), .val (.int (if pt = true then (1 : Int32) else 0)), .val (.int (Int32.ofNat nf)), .val (.int (Int32.ofNat nt)), .val (.int bg), .val (.ref b7), .val (.int (Int32.ofNat (off + ks248.length))), .val (.int (Int32.ofNat off)), .unset, .unset, .unset, .unset]) rfl k_) ?_
  show own_Go _ _ _ _ (T239.setTop (mkF m 277 #[.val (.int p0), .val (.int p1), .val (.long q2), .second, .val (.int p3), .val (.int (Int32.ofNat off)), .val (.int (Int32.ofNat nb)), .val (.int (if neg = true then (1 : Int32) else 0)), .val (.int (Int32.ofNat ni)), .val (.int (if pt = true then (1 : Int32) else 0)), .val (.int (Int32.ofNat nf)), .val (.int (Int32.ofNat nt)), .val (.int bg), .val (.ref b7), .val (.int (Int32.ofNat (off + ks248.length))), .val (.int (Int32.ofNat off)), .unset, .unset, .unset, .unset] []))
  refine own_go (fun t_ k_ => XS.aload A240.here hx rfl (hb hby at_277) rfl rfl k_) ?_
  show own_Go _ _ _ _ (T239.setTop (mkF m 279 #[.val (.int p0), .val (.int p1), .val (.long q2), .second, .val (.int p3), .val (.int (Int32.ofNat off)), .val (.int (Int32.ofNat nb)), .val (.int (if neg = true then (1 : Int32) else 0)), .val (.int (Int32.ofNat ni)), .val (.int (if pt = true then (1 : Int32) else 0)), .val (.int (Int32.ofNat nf)), .val (.int (Int32.ofNat nt)), .val (.int bg), .val (.ref b7), .val (.int (Int32.ofNat (off + ks248.length))), .val (.int (Int32.ofNat off)), .unset, .unset, .unset, .unset] [(.ref b7)]))
  refine own_go (fun t_ k_ => XS.iload A240.here hx rfl (hb hby at_279) rfl k_) ?_
  show own_Go _ _ _ _ (T239.setTop (mkF m 281 #[.val (.int p0), .val (.int p1), .val (.long q2), .second, .val (.int p3), .val (.int (Int32.ofNat off)), .val (.int (Int32.ofNat nb)), .val (.int (if neg = true then (1 : Int32) else 0)), .val (.int (Int32.ofNat ni)), .val (.int (if pt = true then (1 : Int32) else 0)), .val (.int (Int32.ofNat nf)), .val (.int (Int32.ofNat nt)), .val (.int bg), .val (.ref b7), .val (.int (Int32.ofNat (off + ks248.length))), .val (.int (Int32.ofNat off)), .unset, .unset, .unset, .unset] [(.int (Int32.ofNat (off + ks248.length))), (.ref b7)]))
  refine own_go (fun t_ k_ => XS.iload A240.here hx rfl (hb hby at_281) rfl k_) ?_
  show own_Go _ _ _ _ (T239.setTop (mkF m 283 #[.val (.int p0), .val (.int p1), .val (.long q2), .second, .val (.int p3), .val (.int (Int32.ofNat off)), .val (.int (Int32.ofNat nb)), .val (.int (if neg = true then (1 : Int32) else 0)), .val (.int (Int32.ofNat ni)), .val (.int (if pt = true then (1 : Int32) else 0)), .val (.int (Int32.ofNat nf)), .val (.int (Int32.ofNat nt)), .val (.int bg), .val (.ref b7), .val (.int (Int32.ofNat (off + ks248.length))), .val (.int (Int32.ofNat off)), .unset, .unset, .unset, .unset] [(.int (Int32.ofNat nb)), (.int (Int32.ofNat (off + ks248.length))), (.ref b7)]))
  refine own_go (fun t_ k_ => XS.iconst A240.here hx rfl (hb hby at_283) k_) ?_
  show own_Go _ _ _ _ (T239.setTop (mkF m 284 #[.val (.int p0), .val (.int p1), .val (.long q2), .second, .val (.int p3), .val (.int (Int32.ofNat off)), .val (.int (Int32.ofNat nb)), .val (.int (if neg = true then (1 : Int32) else 0)), .val (.int (Int32.ofNat ni)), .val (.int (if pt = true then (1 : Int32) else 0)), .val (.int (Int32.ofNat nf)), .val (.int (Int32.ofNat nt)), .val (.int bg), .val (.ref b7), .val (.int (Int32.ofNat (off + ks248.length))), .val (.int (Int32.ofNat off)), .unset, .unset, .unset, .unset] [(.int (2 : Int32)), (.int (Int32.ofNat nb)), (.int (Int32.ofNat (off + ks248.length))), (.ref b7)]))
  have mg254 : ∀ t_, Steps p.tables e below (T239.setTop (mkF m 292 #[.val (.int p0), .val (.int p1), .val (.long q2), .second, .val (.int p3), .val (.int (Int32.ofNat off)), .val (.int (Int32.ofNat nb)), .val (.int (if neg = true then (1 : Int32) else 0)), .val (.int (Int32.ofNat ni)), .val (.int (if pt = true then (1 : Int32) else 0)), .val (.int (Int32.ofNat nf)), .val (.int (Int32.ofNat nt)), .val (.int bg), .val (.ref b7), .val (.int (Int32.ofNat (off + ks248.length))), .val (.int (Int32.ofNat off)), .unset, .unset, .unset, .unset] [(.int (if (2 : Int32) < (Int32.ofNat nb) then (1 : Int32) else (0 : Int32))), (.int (Int32.ofNat (off + ks248.length))), (.ref b7)])) t_ → Steps p.tables e below (T239.setTop (mkF m 284 #[.val (.int p0), .val (.int p1), .val (.long q2), .second, .val (.int p3), .val (.int (Int32.ofNat off)), .val (.int (Int32.ofNat nb)), .val (.int (if neg = true then (1 : Int32) else 0)), .val (.int (Int32.ofNat ni)), .val (.int (if pt = true then (1 : Int32) else 0)), .val (.int (Int32.ofNat nf)), .val (.int (Int32.ofNat nt)), .val (.int bg), .val (.ref b7), .val (.int (Int32.ofNat (off + ks248.length))), .val (.int (Int32.ofNat off)), .unset, .unset, .unset, .unset] [(.int (2 : Int32)), (.int (Int32.ofNat nb)), (.int (Int32.ofNat (off + ks248.length))), (.ref b7)])) t_ := by
    intro t_ k_
    by_cases hm284_0 : (2 : Int32) < (Int32.ofNat nb)
    ·
      simp only [if_pos hm284_0] at k_
      exact (XS.icmpNo A240.here hx rfl (hb hby at_284) rfl (tlt hm284_0).2.2.2 (XS.iconst A240.here hx rfl (hb hby at_287) (XS.goto A240.here hx rfl (pc0 := 288) (pc' := 292) rfl (hb hby at_288) (by decide) (by decide) k_)))
    ·
      simp only [if_neg hm284_0] at k_
      exact (XS.icmpYes A240.here hx rfl (pc0 := 284) (pc' := 291) rfl (hb hby at_284) rfl (flt hm284_0).2.2.2 (by decide) (by decide) (XS.iconst A240.here hx rfl (hb hby at_291) k_))
  refine own_go mg254 ?_
  show own_Go _ _ _ _ (T239.setTop (mkF m 292 #[.val (.int p0), .val (.int p1), .val (.long q2), .second, .val (.int p3), .val (.int (Int32.ofNat off)), .val (.int (Int32.ofNat nb)), .val (.int (if neg = true then (1 : Int32) else 0)), .val (.int (Int32.ofNat ni)), .val (.int (if pt = true then (1 : Int32) else 0)), .val (.int (Int32.ofNat nf)), .val (.int (Int32.ofNat nt)), .val (.int bg), .val (.ref b7), .val (.int (Int32.ofNat (off + ks248.length))), .val (.int (Int32.ofNat off)), .unset, .unset, .unset, .unset] [(.int (if (2 : Int32) < (Int32.ofNat nb) then (1 : Int32) else (0 : Int32))), (.int (Int32.ofNat (off + ks248.length))), (.ref b7)]))
  refine own_go (fun t_ k_ => XS.iloadN A240.here hx rfl (hb hby at_292) rfl k_) ?_
  show own_Go _ _ _ _ (T239.setTop (mkF m 293 #[.val (.int p0), .val (.int p1), .val (.long q2), .second, .val (.int p3), .val (.int (Int32.ofNat off)), .val (.int (Int32.ofNat nb)), .val (.int (if neg = true then (1 : Int32) else 0)), .val (.int (Int32.ofNat ni)), .val (.int (if pt = true then (1 : Int32) else 0)), .val (.int (Int32.ofNat nf)), .val (.int (Int32.ofNat nt)), .val (.int bg), .val (.ref b7), .val (.int (Int32.ofNat (off + ks248.length))), .val (.int (Int32.ofNat off)), .unset, .unset, .unset, .unset] [(.int p1), (.int (if (2 : Int32) < (Int32.ofNat nb) then (1 : Int32) else (0 : Int32))), (.int (Int32.ofNat (off + ks248.length))), (.ref b7)]))
  refine own_go (fun t_ k_ => XS.iconst A240.here hx rfl (hb hby at_293) k_) ?_
  show own_Go _ _ _ _ (T239.setTop (mkF m 294 #[.val (.int p0), .val (.int p1), .val (.long q2), .second, .val (.int p3), .val (.int (Int32.ofNat off)), .val (.int (Int32.ofNat nb)), .val (.int (if neg = true then (1 : Int32) else 0)), .val (.int (Int32.ofNat ni)), .val (.int (if pt = true then (1 : Int32) else 0)), .val (.int (Int32.ofNat nf)), .val (.int (Int32.ofNat nt)), .val (.int bg), .val (.ref b7), .val (.int (Int32.ofNat (off + ks248.length))), .val (.int (Int32.ofNat off)), .unset, .unset, .unset, .unset] [(.int (2 : Int32)), (.int p1), (.int (if (2 : Int32) < (Int32.ofNat nb) then (1 : Int32) else (0 : Int32))), (.int (Int32.ofNat (off + ks248.length))), (.ref b7)]))
  refine own_callS A240 hx hZ hown (y := (⟨"com/example/indexloom/indexloom/data/DataLineScalePinLaw", "blank", "(II)B"⟩ : MethodName)) (hw _ (List.mem_of_getElem? (i := 1) rfl)) (hw _ (List.mem_of_getElem? (i := 2) rfl)) (hw _ (List.mem_of_getElem? (i := 3) rfl)) (hw _ (List.mem_of_getElem? (i := 4) rfl)) (by decide) (argsL := [(.int p1), (.int (2 : Int32))]) (rest := [(.int (if (2 : Int32) < (Int32.ofNat nb) then (1 : Int32) else (0 : Int32))), (.int (Int32.ofNat (off + ks248.length))), (.ref b7)]) (rm1 l Z a0 hw p1 (2 : Int32) h241 n0 ) 3 (by decide) (by decide) rfl (by rw [hml]; rfl) (lenOf pd__II_B rfl) rfl (by show 2 * 0 + _ ≤ _; exact Nat.le_of_eq rfl) (hb hby at_294) (by decide) (by decide) (fun v258 T255 h257 A256 hQ259 => ?_)
  obtain ⟨rfl, rfl⟩ := hQ259
  show own_Go _ _ _ _ (T255.setTop (mkF m 297 #[.val (.int p0), .val (.int p1), .val (.long q2), .second, .val (.int p3), .val (.int (Int32.ofNat off)), .val (.int (Int32.ofNat nb)), .val (.int (if neg = true then (1 : Int32) else 0)), .val (.int (Int32.ofNat ni)), .val (.int (if pt = true then (1 : Int32) else 0)), .val (.int (Int32.ofNat nf)), .val (.int (Int32.ofNat nt)), .val (.int bg), .val (.ref b7), .val (.int (Int32.ofNat (off + ks248.length))), .val (.int (Int32.ofNat off)), .unset, .unset, .unset, .unset] [(.int (f1 p1 (2 : Int32))), (.int (if (2 : Int32) < (Int32.ofNat nb) then (1 : Int32) else (0 : Int32))), (.int (Int32.ofNat (off + ks248.length))), (.ref b7)]))
  refine own_callS A256 hx hZ hown (y := (⟨"com/example/indexloom/indexloom/data/DataLineScalePinLaw", "put", "([BIZB)I"⟩ : MethodName)) (hw _ (List.mem_of_getElem? (i := 5) rfl)) (hw _ (List.mem_of_getElem? (i := 6) rfl)) (hw _ (List.mem_of_getElem? (i := 3) rfl)) (hw _ (List.mem_of_getElem? (i := 7) rfl)) (by decide) (argsL := [(.ref b7), (.int (Int32.ofNat (off + ks248.length))), (.int (if (2 : Int32) < (Int32.ofNat nb) then (1 : Int32) else (0 : Int32))), (.int (f1 p1 (2 : Int32)))]) (rest := []) (rm2 l Z a0 hw b7 (if (2 : Int32) < (Int32.ofNat nb) then (1 : Int32) else (0 : Int32)) (f1 p1 (2 : Int32)) off ks248 fb245 (decide (2 < nb)) 0 h241 n0 V246 g_b7 (by omega) I247 (own_gt nb 2 (by omega) (by decide)) (own_kblank _ _) (by decide)) 0 (by decide) (by decide) rfl (by rw [hml]; rfl) (lenOf pd___BIZB_I rfl) rfl (by show 2 * 0 + _ ≤ _; exact Nat.le_of_eq rfl) (hb hby at_297) (by decide) (by decide) (fun v263 T260 h262 A261 hQ264 => ?_)
  obtain ⟨K265, fb266, rfl, V267, I268⟩ := hQ264
  have hl271 := Nat.le_trans (own_app_len ks248 (decide (2 < nb)) 0) (Nat.succ_le_succ hl250)
  generalize ek270 : own_app ks248 (decide (2 < nb)) 0 = ks269 at I268 hl271
  have Y272 : 0 ≤ h262.size := Nat.le_trans Y251 K265.1
  have O273 : Old Z n0 h262 := O252.keep K265 (allS g_b7 all0)
  have Z274 : n0 ≤ h262.size := Nat.le_trans Z253 K265.1
  show own_Go _ _ _ _ (T260.setTop (mkF m 300 #[.val (.int p0), .val (.int p1), .val (.long q2), .second, .val (.int p3), .val (.int (Int32.ofNat off)), .val (.int (Int32.ofNat nb)), .val (.int (if neg = true then (1 : Int32) else 0)), .val (.int (Int32.ofNat ni)), .val (.int (if pt = true then (1 : Int32) else 0)), .val (.int (Int32.ofNat nf)), .val (.int (Int32.ofNat nt)), .val (.int bg), .val (.ref b7), .val (.int (Int32.ofNat (off + ks248.length))), .val (.int (Int32.ofNat off)), .unset, .unset, .unset, .unset] [(.int (Int32.ofNat (off + ks269.length)))]))
  refine own_go (fun t_ k_ => XS.istore A261.here hx rfl (hb hby at_300) rfl (l' := #[.val (.int p0), .val (.int p1), .val (.long q2), .second, .val (.int p3), .val (.int (Int32.ofNat off)), .val (.int (Int32.ofNat nb)), .val (.int (if neg = true then (1 : Int32) else 0)), .val (.int (Int32.ofNat ni)), .val (.int (if pt = true then (1 : Int32) else 0)), .val (.int (Int32.ofNat nf)), .val (.int (Int32.ofNat nt)), .val (.int bg), .val (.ref b7), .val (.int (Int32.ofNat (off + ks269.length))), .val (.int (Int32.ofNat off)), .unset, .unset, .unset, .unset]) rfl k_) ?_
  show own_Go _ _ _ _ (T260.setTop (mkF m 302 #[.val (.int p0), .val (.int p1), .val (.long q2), .second, .val (.int p3), .val (.int (Int32.ofNat off)), .val (.int (Int32.ofNat nb)), .val (.int (if neg = true then (1 : Int32) else 0)), .val (.int (Int32.ofNat ni)), .val (.int (if pt = true then (1 : Int32) else 0)), .val (.int (Int32.ofNat nf)), .val (.int (Int32.ofNat nt)), .val (.int bg), .val (.ref b7), .val (.int (Int32.ofNat (off + ks269.length))), .val (.int (Int32.ofNat off)), .unset, .unset, .unset, .unset] []))
  refine own_go (fun t_ k_ => XS.aload A261.here hx rfl (hb hby at_302) rfl rfl k_) ?_
  show own_Go _ _ _ _ (T260.setTop (mkF m 304 #[.val (.int p0), .val (.int p1), .val (.long q2), .second, .val (.int p3), .val (.int (Int32.ofNat off)), .val (.int (Int32.ofNat nb)), .val (.int (if neg = true then (1 : Int32) else 0)), .val (.int (Int32.ofNat ni)), .val (.int (if pt = true then (1 : Int32) else 0)), .val (.int (Int32.ofNat nf)), .val (.int (Int32.ofNat nt)), .val (.int bg), .val (.ref b7), .val (.int (Int32.ofNat (off + ks269.length))), .val (.int (Int32.ofNat off)), .unset, .unset, .unset, .unset] [(.ref b7)]))
  refine own_go (fun t_ k_ => XS.iload A261.here hx rfl (hb hby at_304) rfl k_) ?_
  show own_Go _ _ _ _ (T260.setTop (mkF m 306 #[.val (.int p0), .val (.int p1), .val (.long q2), .second, .val (.int p3), .val (.int (Int32.ofNat off)), .val (.int (Int32.ofNat nb)), .val (.int (if neg = true then (1 : Int32) else 0)), .val (.int (Int32.ofNat ni)), .val (.int (if pt = true then (1 : Int32) else 0)), .val (.int (Int32.ofNat nf)), .val (.int (Int32.ofNat nt)), .val (.int bg), .val (.ref b7), .val (.int (Int32.ofNat (off + ks269.length))), .val (.int (Int32.ofNat off)), .unset, .unset, .unset, .unset] [(.int (Int32.ofNat (off + ks269.length))), (.ref b7)]))
  refine own_go (fun t_ k_ => XS.iload A261.here hx rfl (hb hby at_306) rfl k_) ?_
  show own_Go _ _ _ _ (T260.setTop (mkF m 308 #[.val (.int p0), .val (.int p1), .val (.long q2), .second, .val (.int p3), .val (.int (Int32.ofNat off)), .val (.int (Int32.ofNat nb)), .val (.int (if neg = true then (1 : Int32) else 0)), .val (.int (Int32.ofNat ni)), .val (.int (if pt = true then (1 : Int32) else 0)), .val (.int (Int32.ofNat nf)), .val (.int (Int32.ofNat nt)), .val (.int bg), .val (.ref b7), .val (.int (Int32.ofNat (off + ks269.length))), .val (.int (Int32.ofNat off)), .unset, .unset, .unset, .unset] [(.int (if neg = true then (1 : Int32) else 0)), (.int (Int32.ofNat (off + ks269.length))), (.ref b7)]))
  refine own_go (fun t_ k_ => XS.bipush A261.here hx rfl (hb hby at_308) k_) ?_
  show own_Go _ _ _ _ (T260.setTop (mkF m 310 #[.val (.int p0), .val (.int p1), .val (.long q2), .second, .val (.int p3), .val (.int (Int32.ofNat off)), .val (.int (Int32.ofNat nb)), .val (.int (if neg = true then (1 : Int32) else 0)), .val (.int (Int32.ofNat ni)), .val (.int (if pt = true then (1 : Int32) else 0)), .val (.int (Int32.ofNat nf)), .val (.int (Int32.ofNat nt)), .val (.int bg), .val (.ref b7), .val (.int (Int32.ofNat (off + ks269.length))), .val (.int (Int32.ofNat off)), .unset, .unset, .unset, .unset] [(.int (45 : Int32)), (.int (if neg = true then (1 : Int32) else 0)), (.int (Int32.ofNat (off + ks269.length))), (.ref b7)]))
  refine own_callS A261 hx hZ hown (y := (⟨"com/example/indexloom/indexloom/data/DataLineScalePinLaw", "put", "([BIZB)I"⟩ : MethodName)) (hw _ (List.mem_of_getElem? (i := 5) rfl)) (hw _ (List.mem_of_getElem? (i := 6) rfl)) (hw _ (List.mem_of_getElem? (i := 3) rfl)) (hw _ (List.mem_of_getElem? (i := 7) rfl)) (by decide) (argsL := [(.ref b7), (.int (Int32.ofNat (off + ks269.length))), (.int (if neg = true then (1 : Int32) else 0)), (.int (45 : Int32))]) (rest := []) (rm2 l Z a0 hw b7 (if neg = true then (1 : Int32) else 0) (45 : Int32) off ks269 fb266 neg 1 h262 n0 V267 g_b7 (by omega) I268 rfl rfl (by decide)) 0 (by decide) (by decide) rfl (by rw [hml]; rfl) (lenOf pd___BIZB_I rfl) rfl (by show 2 * 0 + _ ≤ _; exact Nat.le_of_eq rfl) (hb hby at_310) (by decide) (by decide) (fun v278 T275 h277 A276 hQ279 => ?_)
  obtain ⟨K280, fb281, rfl, V282, I283⟩ := hQ279
  have hl286 := Nat.le_trans (own_app_len ks269 neg 1) (Nat.succ_le_succ hl271)
  generalize ek285 : own_app ks269 neg 1 = ks284 at I283 hl286
  have Y287 : 0 ≤ h277.size := Nat.le_trans Y272 K280.1
  have O288 : Old Z n0 h277 := O273.keep K280 (allS g_b7 all0)
  have Z289 : n0 ≤ h277.size := Nat.le_trans Z274 K280.1
  show own_Go _ _ _ _ (T275.setTop (mkF m 313 #[.val (.int p0), .val (.int p1), .val (.long q2), .second, .val (.int p3), .val (.int (Int32.ofNat off)), .val (.int (Int32.ofNat nb)), .val (.int (if neg = true then (1 : Int32) else 0)), .val (.int (Int32.ofNat ni)), .val (.int (if pt = true then (1 : Int32) else 0)), .val (.int (Int32.ofNat nf)), .val (.int (Int32.ofNat nt)), .val (.int bg), .val (.ref b7), .val (.int (Int32.ofNat (off + ks269.length))), .val (.int (Int32.ofNat off)), .unset, .unset, .unset, .unset] [(.int (Int32.ofNat (off + ks284.length)))]))
  refine own_go (fun t_ k_ => XS.istore A276.here hx rfl (hb hby at_313) rfl (l' := #[.val (.int p0), .val (.int p1), .val (.long q2), .second, .val (.int p3), .val (.int (Int32.ofNat off)), .val (.int (Int32.ofNat nb)), .val (.int (if neg = true then (1 : Int32) else 0)), .val (.int (Int32.ofNat ni)), .val (.int (if pt = true then (1 : Int32) else 0)), .val (.int (Int32.ofNat nf)), .val (.int (Int32.ofNat nt)), .val (.int bg), .val (.ref b7), .val (.int (Int32.ofNat (off + ks284.length))), .val (.int (Int32.ofNat off)), .unset, .unset, .unset, .unset]) rfl k_) ?_
  show own_Go _ _ _ _ (T275.setTop (mkF m 315 #[.val (.int p0), .val (.int p1), .val (.long q2), .second, .val (.int p3), .val (.int (Int32.ofNat off)), .val (.int (Int32.ofNat nb)), .val (.int (if neg = true then (1 : Int32) else 0)), .val (.int (Int32.ofNat ni)), .val (.int (if pt = true then (1 : Int32) else 0)), .val (.int (Int32.ofNat nf)), .val (.int (Int32.ofNat nt)), .val (.int bg), .val (.ref b7), .val (.int (Int32.ofNat (off + ks284.length))), .val (.int (Int32.ofNat off)), .unset, .unset, .unset, .unset] []))
  refine own_go (fun t_ k_ => XS.aload A276.here hx rfl (hb hby at_315) rfl rfl k_) ?_
  show own_Go _ _ _ _ (T275.setTop (mkF m 317 #[.val (.int p0), .val (.int p1), .val (.long q2), .second, .val (.int p3), .val (.int (Int32.ofNat off)), .val (.int (Int32.ofNat nb)), .val (.int (if neg = true then (1 : Int32) else 0)), .val (.int (Int32.ofNat ni)), .val (.int (if pt = true then (1 : Int32) else 0)), .val (.int (Int32.ofNat nf)), .val (.int (Int32.ofNat nt)), .val (.int bg), .val (.ref b7), .val (.int (Int32.ofNat (off + ks284.length))), .val (.int (Int32.ofNat off)), .unset, .unset, .unset, .unset] [(.ref b7)]))
  refine own_go (fun t_ k_ => XS.iload A276.here hx rfl (hb hby at_317) rfl k_) ?_
  show own_Go _ _ _ _ (T275.setTop (mkF m 319 #[.val (.int p0), .val (.int p1), .val (.long q2), .second, .val (.int p3), .val (.int (Int32.ofNat off)), .val (.int (Int32.ofNat nb)), .val (.int (if neg = true then (1 : Int32) else 0)), .val (.int (Int32.ofNat ni)), .val (.int (if pt = true then (1 : Int32) else 0)), .val (.int (Int32.ofNat nf)), .val (.int (Int32.ofNat nt)), .val (.int bg), .val (.ref b7), .val (.int (Int32.ofNat (off + ks284.length))), .val (.int (Int32.ofNat off)), .unset, .unset, .unset, .unset] [(.int (Int32.ofNat (off + ks284.length))), (.ref b7)]))
  refine own_go (fun t_ k_ => XS.iconst A276.here hx rfl (hb hby at_319) k_) ?_
  show own_Go _ _ _ _ (T275.setTop (mkF m 320 #[.val (.int p0), .val (.int p1), .val (.long q2), .second, .val (.int p3), .val (.int (Int32.ofNat off)), .val (.int (Int32.ofNat nb)), .val (.int (if neg = true then (1 : Int32) else 0)), .val (.int (Int32.ofNat ni)), .val (.int (if pt = true then (1 : Int32) else 0)), .val (.int (Int32.ofNat nf)), .val (.int (Int32.ofNat nt)), .val (.int bg), .val (.ref b7), .val (.int (Int32.ofNat (off + ks284.length))), .val (.int (Int32.ofNat off)), .unset, .unset, .unset, .unset] [(.int (1 : Int32)), (.int (Int32.ofNat (off + ks284.length))), (.ref b7)]))
  refine own_go (fun t_ k_ => XS.lloadN A276.here hx rfl (hb hby at_320) rfl k_) ?_
  show own_Go _ _ _ _ (T275.setTop (mkF m 321 #[.val (.int p0), .val (.int p1), .val (.long q2), .second, .val (.int p3), .val (.int (Int32.ofNat off)), .val (.int (Int32.ofNat nb)), .val (.int (if neg = true then (1 : Int32) else 0)), .val (.int (Int32.ofNat ni)), .val (.int (if pt = true then (1 : Int32) else 0)), .val (.int (Int32.ofNat nf)), .val (.int (Int32.ofNat nt)), .val (.int bg), .val (.ref b7), .val (.int (Int32.ofNat (off + ks284.length))), .val (.int (Int32.ofNat off)), .unset, .unset, .unset, .unset] [(.long q2), (.int (1 : Int32)), (.int (Int32.ofNat (off + ks284.length))), (.ref b7)]))
  refine own_go (fun t_ k_ => XS.iconst A276.here hx rfl (hb hby at_321) k_) ?_
  show own_Go _ _ _ _ (T275.setTop (mkF m 322 #[.val (.int p0), .val (.int p1), .val (.long q2), .second, .val (.int p3), .val (.int (Int32.ofNat off)), .val (.int (Int32.ofNat nb)), .val (.int (if neg = true then (1 : Int32) else 0)), .val (.int (Int32.ofNat ni)), .val (.int (if pt = true then (1 : Int32) else 0)), .val (.int (Int32.ofNat nf)), .val (.int (Int32.ofNat nt)), .val (.int bg), .val (.ref b7), .val (.int (Int32.ofNat (off + ks284.length))), .val (.int (Int32.ofNat off)), .unset, .unset, .unset, .unset] [(.int (0 : Int32)), (.long q2), (.int (1 : Int32)), (.int (Int32.ofNat (off + ks284.length))), (.ref b7)]))
  refine own_callS A276 hx hZ hown (y := (⟨"com/example/indexloom/indexloom/data/DataLineScalePinLaw", "digit", "(JI)B"⟩ : MethodName)) (hw _ (List.mem_of_getElem? (i := 8) rfl)) (hw _ (List.mem_of_getElem? (i := 9) rfl)) (hw _ (List.mem_of_getElem? (i := 3) rfl)) (hw _ (List.mem_of_getElem? (i := 10) rfl)) (by decide) (argsL := [(.long q2), (.int (0 : Int32))]) (rest := [(.int (1 : Int32)), (.int (Int32.ofNat (off + ks284.length))), (.ref b7)]) (rm3 l Z a0 hw q2 (0 : Int32) h277 n0 ) 3 (by decide) (by decide) rfl (by rw [hml]; rfl) (lenOf pd__JI_B rfl) rfl (by show 2 * 0 + _ ≤ _; exact Nat.le_of_eq rfl) (hb hby at_322) (by decide) (by decide) (fun v293 T290 h292 A291 hQ294 => ?_)
  obtain ⟨rfl, rfl⟩ := hQ294
  show own_Go _ _ _ _ (T290.setTop (mkF m 325 #[.val (.int p0), .val (.int p1), .val (.long q2), .second, .val (.int p3), .val (.int (Int32.ofNat off)), .val (.int (Int32.ofNat nb)), .val (.int (if neg = true then (1 : Int32) else 0)), .val (.int (Int32.ofNat ni)), .val (.int (if pt = true then (1 : Int32) else 0)), .val (.int (Int32.ofNat nf)), .val (.int (Int32.ofNat nt)), .val (.int bg), .val (.ref b7), .val (.int (Int32.ofNat (off + ks284.length))), .val (.int (Int32.ofNat off)), .unset, .unset, .unset, .unset] [(.int (f3 q2 (0 : Int32))), (.int (1 : Int32)), (.int (Int32.ofNat (off + ks284.length))), (.ref b7)]))
  refine own_callS A291 hx hZ hown (y := (⟨"com/example/indexloom/indexloom/data/DataLineScalePinLaw", "put", "([BIZB)I"⟩ : MethodName)) (hw _ (List.mem_of_getElem? (i := 5) rfl)) (hw _ (List.mem_of_getElem? (i := 6) rfl)) (hw _ (List.mem_of_getElem? (i := 3) rfl)) (hw _ (List.mem_of_getElem? (i := 7) rfl)) (by decide) (argsL := [(.ref b7), (.int (Int32.ofNat (off + ks284.length))), (.int (1 : Int32)), (.int (f3 q2 (0 : Int32)))]) (rest := []) (rm2 l Z a0 hw b7 (1 : Int32) (f3 q2 (0 : Int32)) off ks284 fb281 true 1 h277 n0 V282 g_b7 (by omega) I283 rfl (own_kdig _ _) (by decide)) 0 (by decide) (by decide) rfl (by rw [hml]; rfl) (lenOf pd___BIZB_I rfl) rfl (by show 2 * 0 + _ ≤ _; exact Nat.le_of_eq rfl) (hb hby at_325) (by decide) (by decide) (fun v298 T295 h297 A296 hQ299 => ?_)
  obtain ⟨K300, fb301, rfl, V302, I303⟩ := hQ299
  have hl306 := Nat.le_trans (own_app_len ks284 true 1) (Nat.succ_le_succ hl286)
  generalize ek305 : own_app ks284 true 1 = ks304 at I303 hl306
  have Y307 : 0 ≤ h297.size := Nat.le_trans Y287 K300.1
  have O308 : Old Z n0 h297 := O288.keep K300 (allS g_b7 all0)
  have Z309 : n0 ≤ h297.size := Nat.le_trans Z289 K300.1
  show own_Go _ _ _ _ (T295.setTop (mkF m 328 #[.val (.int p0), .val (.int p1), .val (.long q2), .second, .val (.int p3), .val (.int (Int32.ofNat off)), .val (.int (Int32.ofNat nb)), .val (.int (if neg = true then (1 : Int32) else 0)), .val (.int (Int32.ofNat ni)), .val (.int (if pt = true then (1 : Int32) else 0)), .val (.int (Int32.ofNat nf)), .val (.int (Int32.ofNat nt)), .val (.int bg), .val (.ref b7), .val (.int (Int32.ofNat (off + ks284.length))), .val (.int (Int32.ofNat off)), .unset, .unset, .unset, .unset] [(.int (Int32.ofNat (off + ks304.length)))]))
  refine own_go (fun t_ k_ => XS.istore A296.here hx rfl (hb hby at_328) rfl (l' := #[.val (.int p0), .val (.int p1), .val (.long q2), .second, .val (.int p3), .val (.int (Int32.ofNat off)), .val (.int (Int32.ofNat nb)), .val (.int (if neg = true then (1 : Int32) else 0)), .val (.int (Int32.ofNat ni)), .val (.int (if pt = true then (1 : Int32) else 0)), .val (.int (Int32.ofNat nf)), .val (.int (Int32.ofNat nt)), .val (.int bg), .val (.ref b7), .val (.int (Int32.ofNat (off + ks304.length))), .val (.int (Int32.ofNat off)), .unset, .unset, .unset, .unset]) rfl k_) ?_
  show own_Go _ _ _ _ (T295.setTop (mkF m 330 #[.val (.int p0), .val (.int p1), .val (.long q2), .second, .val (.int p3), .val (.int (Int32.ofNat off)), .val (.int (Int32.ofNat nb)), .val (.int (if neg = true then (1 : Int32) else 0)), .val (.int (Int32.ofNat ni)), .val (.int (if pt = true then (1 : Int32) else 0)), .val (.int (Int32.ofNat nf)), .val (.int (Int32.ofNat nt)), .val (.int bg), .val (.ref b7), .val (.int (Int32.ofNat (off + ks304.length))), .val (.int (Int32.ofNat off)), .unset, .unset, .unset, .unset] []))
  refine own_go (fun t_ k_ => XS.aload A296.here hx rfl (hb hby at_330) rfl rfl k_) ?_
  show own_Go _ _ _ _ (T295.setTop (mkF m 332 #[.val (.int p0), .val (.int p1), .val (.long q2), .second, .val (.int p3), .val (.int (Int32.ofNat off)), .val (.int (Int32.ofNat nb)), .val (.int (if neg = true then (1 : Int32) else 0)), .val (.int (Int32.ofNat ni)), .val (.int (if pt = true then (1 : Int32) else 0)), .val (.int (Int32.ofNat nf)), .val (.int (Int32.ofNat nt)), .val (.int bg), .val (.ref b7), .val (.int (Int32.ofNat (off + ks304.length))), .val (.int (Int32.ofNat off)), .unset, .unset, .unset, .unset] [(.ref b7)]))
  refine own_go (fun t_ k_ => XS.iload A296.here hx rfl (hb hby at_332) rfl k_) ?_
  show own_Go _ _ _ _ (T295.setTop (mkF m 334 #[.val (.int p0), .val (.int p1), .val (.long q2), .second, .val (.int p3), .val (.int (Int32.ofNat off)), .val (.int (Int32.ofNat nb)), .val (.int (if neg = true then (1 : Int32) else 0)), .val (.int (Int32.ofNat ni)), .val (.int (if pt = true then (1 : Int32) else 0)), .val (.int (Int32.ofNat nf)), .val (.int (Int32.ofNat nt)), .val (.int bg), .val (.ref b7), .val (.int (Int32.ofNat (off + ks304.length))), .val (.int (Int32.ofNat off)), .unset, .unset, .unset, .unset] [(.int (Int32.ofNat (off + ks304.length))), (.ref b7)]))
  refine own_go (fun t_ k_ => XS.iload A296.here hx rfl (hb hby at_334) rfl k_) ?_
  show own_Go _ _ _ _ (T295.setTop (mkF m 336 #[.val (.int p0), .val (.int p1), .val (.long q2), .second, .val (.int p3), .val (.int (Int32.ofNat off)), .val (.int (Int32.ofNat nb)), .val (.int (if neg = true then (1 : Int32) else 0)), .val (.int (Int32.ofNat ni)), .val (.int (if pt = true then (1 : Int32) else 0)), .val (.int (Int32.ofNat nf)), .val (.int (Int32.ofNat nt)), .val (.int bg), .val (.ref b7), .val (.int (Int32.ofNat (off + ks304.length))), .val (.int (Int32.ofNat off)), .unset, .unset, .unset, .unset] [(.int (Int32.ofNat ni)), (.int (Int32.ofNat (off + ks304.length))), (.ref b7)]))
  refine own_go (fun t_ k_ => XS.iconst A296.here hx rfl (hb hby at_336) k_) ?_
  show own_Go _ _ _ _ (T295.setTop (mkF m 337 #[.val (.int p0), .val (.int p1), .val (.long q2), .second, .val (.int p3), .val (.int (Int32.ofNat off)), .val (.int (Int32.ofNat nb)), .val (.int (if neg = true then (1 : Int32) else 0)), .val (.int (Int32.ofNat ni)), .val (.int (if pt = true then (1 : Int32) else 0)), .val (.int (Int32.ofNat nf)), .val (.int (Int32.ofNat nt)), .val (.int bg), .val (.ref b7), .val (.int (Int32.ofNat (off + ks304.length))), .val (.int (Int32.ofNat off)), .unset, .unset, .unset, .unset] [(.int (1 : Int32)), (.int (Int32.ofNat ni)), (.int (Int32.ofNat (off + ks304.length))), (.ref b7)]))
  have mg310 : ∀ t_, Steps p.tables e below (T295.setTop (mkF m 345 #[.val (.int p0), .val (.int p1), .val (.long q2), .second, .val (.int p3), .val (.int (Int32.ofNat off)), .val (.int (Int32.ofNat nb)), .val (.int (if neg = true then (1 : Int32) else 0)), .val (.int (Int32.ofNat ni)), .val (.int (if pt = true then (1 : Int32) else 0)), .val (.int (Int32.ofNat nf)), .val (.int (Int32.ofNat nt)), .val (.int bg), .val (.ref b7), .val (.int (Int32.ofNat (off + ks304.length))), .val (.int (Int32.ofNat off)), .unset, .unset, .unset, .unset] [(.int (if (1 : Int32) < (Int32.ofNat ni) then (1 : Int32) else (0 : Int32))), (.int (Int32.ofNat (off + ks304.length))), (.ref b7)])) t_ → Steps p.tables e below (T295.setTop (mkF m 337 #[.val (.int p0), .val (.int p1), .val (.long q2), .second, .val (.int p3), .val (.int (Int32.ofNat off)), .val (.int (Int32.ofNat nb)), .val (.int (if neg = true then (1 : Int32) else 0)), .val (.int (Int32.ofNat ni)), .val (.int (if pt = true then (1 : Int32) else 0)), .val (.int (Int32.ofNat nf)), .val (.int (Int32.ofNat nt)), .val (.int bg), .val (.ref b7), .val (.int (Int32.ofNat (off + ks304.length))), .val (.int (Int32.ofNat off)), .unset, .unset, .unset, .unset] [(.int (1 : Int32)), (.int (Int32.ofNat ni)), (.int (Int32.ofNat (off + ks304.length))), (.ref b7)])) t_ := by
    intro t_ k_
    by_cases hm337_0 : (1 : Int32) < (Int32.ofNat ni)
    ·
      simp only [if_pos hm337_0] at k_
      exact (XS.icmpNo A296.here hx rfl (hb hby at_337) rfl (tlt hm337_0).2.2.2 (XS.iconst A296.here hx rfl (hb hby at_340) (XS.goto A296.here hx rfl (pc0 := 341) (pc' := 345) rfl (hb hby at_341) (by decide) (by decide) k_)))
    ·
      simp only [if_neg hm337_0] at k_
      exact (XS.icmpYes A296.here hx rfl (pc0 := 337) (pc' := 344) rfl (hb hby at_337) rfl (flt hm337_0).2.2.2 (by decide) (by decide) (XS.iconst A296.here hx rfl (hb hby at_344) k_))
  refine own_go mg310 ?_
  show own_Go _ _ _ _ (T295.setTop (mkF m 345 #[.val (.int p0), .val (.int p1), .val (.long q2), .second, .val (.int p3), .val (.int (Int32.ofNat off)), .val (.int (Int32.ofNat nb)), .val (.int (if neg = true then (1 : Int32) else 0)), .val (.int (Int32.ofNat ni)), .val (.int (if pt = true then (1 : Int32) else 0)), .val (.int (Int32.ofNat nf)), .val (.int (Int32.ofNat nt)), .val (.int bg), .val (.ref b7), .val (.int (Int32.ofNat (off + ks304.length))), .val (.int (Int32.ofNat off)), .unset, .unset, .unset, .unset] [(.int (if (1 : Int32) < (Int32.ofNat ni) then (1 : Int32) else (0 : Int32))), (.int (Int32.ofNat (off + ks304.length))), (.ref b7)]))
  refine own_go (fun t_ k_ => XS.lloadN A296.here hx rfl (hb hby at_345) rfl k_) ?_
  show own_Go _ _ _ _ (T295.setTop (mkF m 346 #[.val (.int p0), .val (.int p1), .val (.long q2), .second, .val (.int p3), .val (.int (Int32.ofNat off)), .val (.int (Int32.ofNat nb)), .val (.int (if neg = true then (1 : Int32) else 0)), .val (.int (Int32.ofNat ni)), .val (.int (if pt = true then (1 : Int32) else 0)), .val (.int (Int32.ofNat nf)), .val (.int (Int32.ofNat nt)), .val (.int bg), .val (.ref b7), .val (.int (Int32.ofNat (off + ks304.length))), .val (.int (Int32.ofNat off)), .unset, .unset, .unset, .unset] [(.long q2), (.int (if (1 : Int32) < (Int32.ofNat ni) then (1 : Int32) else (0 : Int32))), (.int (Int32.ofNat (off + ks304.length))), (.ref b7)]))
  refine own_go (fun t_ k_ => XS.iconst A296.here hx rfl (hb hby at_346) k_) ?_
  show own_Go _ _ _ _ (T295.setTop (mkF m 347 #[.val (.int p0), .val (.int p1), .val (.long q2), .second, .val (.int p3), .val (.int (Int32.ofNat off)), .val (.int (Int32.ofNat nb)), .val (.int (if neg = true then (1 : Int32) else 0)), .val (.int (Int32.ofNat ni)), .val (.int (if pt = true then (1 : Int32) else 0)), .val (.int (Int32.ofNat nf)), .val (.int (Int32.ofNat nt)), .val (.int bg), .val (.ref b7), .val (.int (Int32.ofNat (off + ks304.length))), .val (.int (Int32.ofNat off)), .unset, .unset, .unset, .unset] [(.int (1 : Int32)), (.long q2), (.int (if (1 : Int32) < (Int32.ofNat ni) then (1 : Int32) else (0 : Int32))), (.int (Int32.ofNat (off + ks304.length))), (.ref b7)]))
  refine own_callS A296 hx hZ hown (y := (⟨"com/example/indexloom/indexloom/data/DataLineScalePinLaw", "digit", "(JI)B"⟩ : MethodName)) (hw _ (List.mem_of_getElem? (i := 8) rfl)) (hw _ (List.mem_of_getElem? (i := 9) rfl)) (hw _ (List.mem_of_getElem? (i := 3) rfl)) (hw _ (List.mem_of_getElem? (i := 10) rfl)) (by decide) (argsL := [(.long q2), (.int (1 : Int32))]) (rest := [(.int (if (1 : Int32) < (Int32.ofNat ni) then (1 : Int32) else (0 : Int32))), (.int (Int32.ofNat (off + ks304.length))), (.ref b7)]) (rm3 l Z a0 hw q2 (1 : Int32) h297 n0 ) 3 (by decide) (by decide) rfl (by rw [hml]; rfl) (lenOf pd__JI_B rfl) rfl (by show 2 * 0 + _ ≤ _; exact Nat.le_of_eq rfl) (hb hby at_347) (by decide) (by decide) (fun v314 T311 h313 A312 hQ315 => ?_)
  obtain ⟨rfl, rfl⟩ := hQ315
  show own_Go _ _ _ _ (T311.setTop (mkF m 350 #[.val (.int p0), .val (.int p1), .val (.long q2), .second, .val (.int p3), .val (.int (Int32.ofNat off)), .val (.int (Int32.ofNat nb)), .val (.int (if neg = true then (1 : Int32) else 0)), .val (.int (Int32.ofNat ni)), .val (.int (if pt = true then (1 : Int32) else 0)), .val (.int (Int32.ofNat nf)), .val (.int (Int32.ofNat nt)), .val (.int bg), .val (.ref b7), .val (.int (Int32.ofNat (off + ks304.length))), .val (.int (Int32.ofNat off)), .unset, .unset, .unset, .unset] [(.int (f3 q2 (1 : Int32))), (.int (if (1 : Int32) < (Int32.ofNat ni) then (1 : Int32) else (0 : Int32))), (.int (Int32.ofNat (off + ks304.length))), (.ref b7)]))
  refine own_callS A312 hx hZ hown (y := (⟨"com/example/indexloom/indexloom/data/DataLineScalePinLaw", "put", "([BIZB)I"⟩ : MethodName)) (hw _ (List.mem_of_getElem? (i := 5) rfl)) (hw _ (List.mem_of_getElem? (i := 6) rfl)) (hw _ (List.mem_of_getElem? (i := 3) rfl)) (hw _ (List.mem_of_getElem? (i := 7) rfl)) (by decide) (argsL := [(.ref b7), (.int (Int32.ofNat (off + ks304.length))), (.int (if (1 : Int32) < (Int32.ofNat ni) then (1 : Int32) else (0 : Int32))), (.int (f3 q2 (1 : Int32)))]) (rest := []) (rm2 l Z a0 hw b7 (if (1 : Int32) < (Int32.ofNat ni) then (1 : Int32) else (0 : Int32)) (f3 q2 (1 : Int32)) off ks304 fb301 (decide (1 < ni)) 1 h297 n0 V302 g_b7 (by omega) I303 (own_gt ni 1 (by omega) (by decide)) (own_kdig _ _) (by decide)) 0 (by decide) (by decide) rfl (by rw [hml]; rfl) (lenOf pd___BIZB_I rfl) rfl (by show 2 * 0 + _ ≤ _; exact Nat.le_of_eq rfl) (hb hby at_350) (by decide) (by decide) (fun v319 T316 h318 A317 hQ320 => ?_)
  obtain ⟨K321, fb322, rfl, V323, I324⟩ := hQ320
  have hl327 := Nat.le_trans (own_app_len ks304 (decide (1 < ni)) 1) (Nat.succ_le_succ hl306)
  generalize ek326 : own_app ks304 (decide (1 < ni)) 1 = ks325 at I324 hl327
  have Y328 : 0 ≤ h318.size := Nat.le_trans Y307 K321.1
  have O329 : Old Z n0 h318 := O308.keep K321 (allS g_b7 all0)
  have Z330 : n0 ≤ h318.size := Nat.le_trans Z309 K321.1
  show own_Go _ _ _ _ (T316.setTop (mkF m 353 #[.val (.int p0), .val (.int p1), .val (.long q2), .second, .val (.int p3), .val (.int (Int32.ofNat off)), .val (.int (Int32.ofNat nb)), .val (.int (if neg = true then (1 : Int32) else 0)), .val (.int (Int32.ofNat ni)), .val (.int (if pt = true then (1 : Int32) else 0)), .val (.int (Int32.ofNat nf)), .val (.int (Int32.ofNat nt)), .val (.int bg), .val (.ref b7), .val (.int (Int32.ofNat (off + ks304.length))), .val (.int (Int32.ofNat off)), .unset, .unset, .unset, .unset] [(.int (Int32.ofNat (off + ks325.length)))]))
  refine own_go (fun t_ k_ => XS.istore A317.here hx rfl (hb hby at_353) rfl (l' := #[.val (.int p0), .val (.int p1), .val (.long q2), .second, .val (.int p3), .val (.int (Int32.ofNat off)), .val (.int (Int32.ofNat nb)), .val (.int (if neg = true then (1 : Int32) else 0)), .val (.int (Int32.ofNat ni)), .val (.int (if pt = true then (1 : Int32) else 0)), .val (.int (Int32.ofNat nf)), .val (.int (Int32.ofNat nt)), .val (.int bg), .val (.ref b7), .val (.int (Int32.ofNat (off + ks325.length))), .val (.int (Int32.ofNat off)), .unset, .unset, .unset, .unset]) rfl k_) ?_
  show own_Go _ _ _ _ (T316.setTop (mkF m 355 #[.val (.int p0), .val (.int p1), .val (.long q2), .second, .val (.int p3), .val (.int (Int32.ofNat off)), .val (.int (Int32.ofNat nb)), .val (.int (if neg = true then (1 : Int32) else 0)), .val (.int (Int32.ofNat ni)), .val (.int (if pt = true then (1 : Int32) else 0)), .val (.int (Int32.ofNat nf)), .val (.int (Int32.ofNat nt)), .val (.int bg), .val (.ref b7), .val (.int (Int32.ofNat (off + ks325.length))), .val (.int (Int32.ofNat off)), .unset, .unset, .unset, .unset] []))
  refine own_go (fun t_ k_ => XS.aload A317.here hx rfl (hb hby at_355) rfl rfl k_) ?_
  show own_Go _ _ _ _ (T316.setTop (mkF m 357 #[.val (.int p0), .val (.int p1), .val (.long q2), .second, .val (.int p3), .val (.int (Int32.ofNat off)), .val (.int (Int32.ofNat nb)), .val (.int (if neg = true then (1 : Int32) else 0)), .val (.int (Int32.ofNat ni)), .val (.int (if pt = true then (1 : Int32) else 0)), .val (.int (Int32.ofNat nf)), .val (.int (Int32.ofNat nt)), .val (.int bg), .val (.ref b7), .val (.int (Int32.ofNat (off + ks325.length))), .val (.int (Int32.ofNat off)), .unset, .unset, .unset, .unset] [(.ref b7)]))
  refine own_go (fun t_ k_ => XS.iload A317.here hx rfl (hb hby at_357) rfl k_) ?_
  show own_Go _ _ _ _ (T316.setTop (mkF m 359 #[.val (.int p0), .val (.int p1), .val (.long q2), .second, .val (.int p3), .val (.int (Int32.ofNat off)), .val (.int (Int32.ofNat nb)), .val (.int (if neg = true then (1 : Int32) else 0)), .val (.int (Int32.ofNat ni)), .val (.int (if pt = true then (1 : Int32) else 0)), .val (.int (Int32.ofNat nf)), .val (.int (Int32.ofNat nt)), .val (.int bg), .val (.ref b7), .val (.int (Int32.ofNat (off + ks325.length))), .val (.int (Int32.ofNat off)), .unset, .unset, .unset, .unset] [(.int (Int32.ofNat (off + ks325.length))), (.ref b7)]))
  refine own_go (fun t_ k_ => XS.iload A317.here hx rfl (hb hby at_359) rfl k_) ?_
  show own_Go _ _ _ _ (T316.setTop (mkF m 361 #[.val (.int p0), .val (.int p1), .val (.long q2), .second, .val (.int p3), .val (.int (Int32.ofNat off)), .val (.int (Int32.ofNat nb)), .val (.int (if neg = true then (1 : Int32) else 0)), .val (.int (Int32.ofNat ni)), .val (.int (if pt = true then (1 : Int32) else 0)), .val (.int (Int32.ofNat nf)), .val (.int (Int32.ofNat nt)), .val (.int bg), .val (.ref b7), .val (.int (Int32.ofNat (off + ks325.length))), .val (.int (Int32.ofNat off)), .unset, .unset, .unset, .unset] [(.int (Int32.ofNat ni)), (.int (Int32.ofNat (off + ks325.length))), (.ref b7)]))
  refine own_go (fun t_ k_ => XS.iconst A317.here hx rfl (hb hby at_361) k_) ?_
  show own_Go _ _ _ _ (T316.setTop (mkF m 362 #[.val (.int p0), .val (.int p1), .val (.long q2), .second, .val (.int p3), .val (.int (Int32.ofNat off)), .val (.int (Int32.ofNat nb)), .val (.int (if neg = true then (1 : Int32) else 0)), .val (.int (Int32.ofNat ni)), .val (.int (if pt = true then (1 : Int32) else 0)), .val (.int (Int32.ofNat nf)), .val (.int (Int32.ofNat nt)), .val (.int bg), .val (.ref b7), .val (.int (Int32.ofNat (off + ks325.length))), .val (.int (Int32.ofNat off)), .unset, .unset, .unset, .unset] [(.int (2 : Int32)), (.int (Int32.ofNat ni)), (.int (Int32.ofNat (off + ks325.length))), (.ref b7)]))
  have mg331 : ∀ t_, Steps p.tables e below (T316.setTop (mkF m 370 #[.val (.int p0), .val (.int p1), .val (.long q2), .second, .val (.int p3), .val (.int (Int32.ofNat off)), .val (.int (Int32.ofNat nb)), .val (.int (if neg = true then (1 : Int32) else 0)), .val (.int (Int32.ofNat ni)), .val (.int (if pt = true then (1 : Int32) else 0)), .val (.int (Int32.ofNat nf)), .val (.int (Int32.ofNat nt)), .val (.int bg), .val (.ref b7), .val (.int (Int32.ofNat (off + ks325.length))), .val (.int (Int32.ofNat off)), .unset, .unset, .unset, .unset] [(.int (if (2 : Int32) < (Int32.ofNat ni) then (1 : Int32) else (0 : Int32))), (.int (Int32.ofNat (off + ks325.length))), (.ref b7)])) t_ → Steps p.tables e below (T316.setTop (mkF m 362 #[.val (.int p0), .val (.int p1), .val (.long q2), .second, .val (.int p3), .val (.int (Int32.ofNat off)), .val (.int (Int32.ofNat nb)), .val (.int (if neg = true then (1 : Int32) else 0)), .val (.int (Int32.ofNat ni)), .val (.int (if pt = true then (1 : Int32) else 0)), .val (.int (Int32.ofNat nf)), .val (.int (Int32.ofNat nt)), .val (.int bg), .val (.ref b7), .val (.int (Int32.ofNat (off + ks325.length))), .val (.int (Int32.ofNat off)), .unset, .unset, .unset, .unset] [(.int (2 : Int32)), (.int (Int32.ofNat ni)), (.int (Int32.ofNat (off + ks325.length))), (.ref b7)])) t_ := by
    intro t_ k_
    by_cases hm362_0 : (2 : Int32) < (Int32.ofNat ni)
    ·
      simp only [if_pos hm362_0] at k_
      exact (XS.icmpNo A317.here hx rfl (hb hby at_362) rfl (tlt hm362_0).2.2.2 (XS.iconst A317.here hx rfl (hb hby at_365) (XS.goto A317.here hx rfl (pc0 := 366) (pc' := 370) rfl (hb hby at_366) (by decide) (by decide) k_)))
    ·
      simp only [if_neg hm362_0] at k_
      exact (XS.icmpYes A317.here hx rfl (pc0 := 362) (pc' := 369) rfl (hb hby at_362) rfl (flt hm362_0).2.2.2 (by decide) (by decide) (XS.iconst A317.here hx rfl (hb hby at_369) k_))
  refine own_go mg331 ?_
  show own_Go _ _ _ _ (T316.setTop (mkF m 370 #[.val (.int p0), .val (.int p1), .val (.long q2), .second, .val (.int p3), .val (.int (Int32.ofNat off)), .val (.int (Int32.ofNat nb)), .val (.int (if neg = true then (1 : Int32) else 0)), .val (.int (Int32.ofNat ni)), .val (.int (if pt = true then (1 : Int32) else 0)), .val (.int (Int32.ofNat nf)), .val (.int (Int32.ofNat nt)), .val (.int bg), .val (.ref b7), .val (.int (Int32.ofNat (off + ks325.length))), .val (.int (Int32.ofNat off)), .unset, .unset, .unset, .unset] [(.int (if (2 : Int32) < (Int32.ofNat ni) then (1 : Int32) else (0 : Int32))), (.int (Int32.ofNat (off + ks325.length))), (.ref b7)]))
  refine own_go (fun t_ k_ => XS.lloadN A317.here hx rfl (hb hby at_370) rfl k_) ?_
  show own_Go _ _ _ _ (T316.setTop (mkF m 371 #[.val (.int p0), .val (.int p1), .val (.long q2), .second, .val (.int p3), .val (.int (Int32.ofNat off)), .val (.int (Int32.ofNat nb)), .val (.int (if neg = true then (1 : Int32) else 0)), .val (.int (Int32.ofNat ni)), .val (.int (if pt = true then (1 : Int32) else 0)), .val (.int (Int32.ofNat nf)), .val (.int (Int32.ofNat nt)), .val (.int bg), .val (.ref b7), .val (.int (Int32.ofNat (off + ks325.length))), .val (.int (Int32.ofNat off)), .unset, .unset, .unset, .unset] [(.long q2), (.int (if (2 : Int32) < (Int32.ofNat ni) then (1 : Int32) else (0 : Int32))), (.int (Int32.ofNat (off + ks325.length))), (.ref b7)]))
  refine own_go (fun t_ k_ => XS.iconst A317.here hx rfl (hb hby at_371) k_) ?_
  show own_Go _ _ _ _ (T316.setTop (mkF m 372 #[.val (.int p0), .val (.int p1), .val (.long q2), .second, .val (.int p3), .val (.int (Int32.ofNat off)), .val (.int (Int32.ofNat nb)), .val (.int (if neg = true then (1 : Int32) else 0)), .val (.int (Int32.ofNat ni)), .val (.int (if pt = true then (1 : Int32) else 0)), .val (.int (Int32.ofNat nf)), .val (.int (Int32.ofNat nt)), .val (.int bg), .val (.ref b7), .val (.int (Int32.ofNat (off + ks325.length))), .val (.int (Int32.ofNat off)), .unset, .unset, .unset, .unset] [(.int (2 : Int32)), (.long q2), (.int (if (2 : Int32) < (Int32.ofNat ni) then (1 : Int32) else (0 : Int32))), (.int (Int32.ofNat (off + ks325.length))), (.ref b7)]))
  refine own_callS A317 hx hZ hown (y := (⟨"com/example/indexloom/indexloom/data/DataLineScalePinLaw", "digit", "(JI)B"⟩ : MethodName)) (hw _ (List.mem_of_getElem? (i := 8) rfl)) (hw _ (List.mem_of_getElem? (i := 9) rfl)) (hw _ (List.mem_of_getElem? (i := 3) rfl)) (hw _ (List.mem_of_getElem? (i := 10) rfl)) (by decide) (argsL := [(.long q2), (.int (2 : Int32))]) (rest := [(.int (if (2 : Int32) < (Int32.ofNat ni) then (1 : Int32) else (0 : Int32))), (.int (Int32.ofNat (off + ks325.length))), (.ref b7)]) (rm3 l Z a0 hw q2 (2 : Int32) h318 n0 ) 3 (by decide) (by decide) rfl (by rw [hml]; rfl) (lenOf pd__JI_B rfl) rfl (by show 2 * 0 + _ ≤ _; exact Nat.le_of_eq rfl) (hb hby at_372) (by decide) (by decide) (fun v335 T332 h334 A333 hQ336 => ?_)
  obtain ⟨rfl, rfl⟩ := hQ336
  show own_Go _ _ _ _ (T332.setTop (mkF m 375 #[.val (.int p0), .val (.int p1), .val (.long q2), .second, .val (.int p3), .val (.int (Int32.ofNat off)), .val (.int (Int32.ofNat nb)), .val (.int (if neg = true then (1 : Int32) else 0)), .val (.int (Int32.ofNat ni)), .val (.int (if pt = true then (1 : Int32) else 0)), .val (.int (Int32.ofNat nf)), .val (.int (Int32.ofNat nt)), .val (.int bg), .val (.ref b7), .val (.int (Int32.ofNat (off + ks325.length))), .val (.int (Int32.ofNat off)), .unset, .unset, .unset, .unset] [(.int (f3 q2 (2 : Int32))), (.int (if (2 : Int32) < (Int32.ofNat ni) then (1 : Int32) else (0 : Int32))), (.int (Int32.ofNat (off + ks325.length))), (.ref b7)]))
  refine own_callS A333 hx hZ hown (y := (⟨"com/example/indexloom/indexloom/data/DataLineScalePinLaw", "put", "([BIZB)I"⟩ : MethodName)) (hw _ (List.mem_of_getElem? (i := 5) rfl)) (hw _ (List.mem_of_getElem? (i := 6) rfl)) (hw _ (List.mem_of_getElem? (i := 3) rfl)) (hw _ (List.mem_of_getElem? (i := 7) rfl)) (by decide) (argsL := [(.ref b7), (.int (Int32.ofNat (off + ks325.length))), (.int (if (2 : Int32) < (Int32.ofNat ni) then (1 : Int32) else (0 : Int32))), (.int (f3 q2 (2 : Int32)))]) (rest := []) (rm2 l Z a0 hw b7 (if (2 : Int32) < (Int32.ofNat ni) then (1 : Int32) else (0 : Int32)) (f3 q2 (2 : Int32)) off ks325 fb322 (decide (2 < ni)) 1 h318 n0 V323 g_b7 (by omega) I324 (own_gt ni 2 (by omega) (by decide)) (own_kdig _ _) (by decide)) 0 (by decide) (by decide) rfl (by rw [hml]; rfl) (lenOf pd___BIZB_I rfl) rfl (by show 2 * 0 + _ ≤ _; exact Nat.le_of_eq rfl) (hb hby at_375) (by decide) (by decide) (fun v340 T337 h339 A338 hQ341 => ?_)
  obtain ⟨K342, fb343, rfl, V344, I345⟩ := hQ341
  have hl348 := Nat.le_trans (own_app_len ks325 (decide (2 < ni)) 1) (Nat.succ_le_succ hl327)
  generalize ek347 : own_app ks325 (decide (2 < ni)) 1 = ks346 at I345 hl348
  have Y349 : 0 ≤ h339.size := Nat.le_trans Y328 K342.1
  have O350 : Old Z n0 h339 := O329.keep K342 (allS g_b7 all0)
  have Z351 : n0 ≤ h339.size := Nat.le_trans Z330 K342.1
  show own_Go _ _ _ _ (T337.setTop (mkF m 378 #[.val (.int p0), .val (.int p1), .val (.long q2), .second, .val (.int p3), .val (.int (Int32.ofNat off)), .val (.int (Int32.ofNat nb)), .val (.int (if neg = true then (1 : Int32) else 0)), .val (.int (Int32.ofNat ni)), .val (.int (if pt = true then (1 : Int32) else 0)), .val (.int (Int32.ofNat nf)), .val (.int (Int32.ofNat nt)), .val (.int bg), .val (.ref b7), .val (.int (Int32.ofNat (off + ks325.length))), .val (.int (Int32.ofNat off)), .unset, .unset, .unset, .unset] [(.int (Int32.ofNat (off + ks346.length)))]))
  refine own_go (fun t_ k_ => XS.istore A338.here hx rfl (hb hby at_378) rfl (l' := #[.val (.int p0), .val (.int p1), .val (.long q2), .second, .val (.int p3), .val (.int (Int32.ofNat off)), .val (.int (Int32.ofNat nb)), .val (.int (if neg = true then (1 : Int32) else 0)), .val (.int (Int32.ofNat ni)), .val (.int (if pt = true then (1 : Int32) else 0)), .val (.int (Int32.ofNat nf)), .val (.int (Int32.ofNat nt)), .val (.int bg), .val (.ref b7), .val (.int (Int32.ofNat (off + ks346.length))), .val (.int (Int32.ofNat off)), .unset, .unset, .unset, .unset]) rfl k_) ?_
  show own_Go _ _ _ _ (T337.setTop (mkF m 380 #[.val (.int p0), .val (.int p1), .val (.long q2), .second, .val (.int p3), .val (.int (Int32.ofNat off)), .val (.int (Int32.ofNat nb)), .val (.int (if neg = true then (1 : Int32) else 0)), .val (.int (Int32.ofNat ni)), .val (.int (if pt = true then (1 : Int32) else 0)), .val (.int (Int32.ofNat nf)), .val (.int (Int32.ofNat nt)), .val (.int bg), .val (.ref b7), .val (.int (Int32.ofNat (off + ks346.length))), .val (.int (Int32.ofNat off)), .unset, .unset, .unset, .unset] []))
  refine own_go (fun t_ k_ => XS.aload A338.here hx rfl (hb hby at_380) rfl rfl k_) ?_
  show own_Go _ _ _ _ (T337.setTop (mkF m 382 #[.val (.int p0), .val (.int p1), .val (.long q2), .second, .val (.int p3), .val (.int (Int32.ofNat off)), .val (.int (Int32.ofNat nb)), .val (.int (if neg = true then (1 : Int32) else 0)), .val (.int (Int32.ofNat ni)), .val (.int (if pt = true then (1 : Int32) else 0)), .val (.int (Int32.ofNat nf)), .val (.int (Int32.ofNat nt)), .val (.int bg), .val (.ref b7), .val (.int (Int32.ofNat (off + ks346.length))), .val (.int (Int32.ofNat off)), .unset, .unset, .unset, .unset] [(.ref b7)]))
  refine own_go (fun t_ k_ => XS.iload A338.here hx rfl (hb hby at_382) rfl k_) ?_
  show own_Go _ _ _ _ (T337.setTop (mkF m 384 #[.val (.int p0), .val (.int p1), .val (.long q2), .second, .val (.int p3), .val (.int (Int32.ofNat off)), .val (.int (Int32.ofNat nb)), .val (.int (if neg = true then (1 : Int32) else 0)), .val (.int (Int32.ofNat ni)), .val (.int (if pt = true then (1 : Int32) else 0)), .val (.int (Int32.ofNat nf)), .val (.int (Int32.ofNat nt)), .val (.int bg), .val (.ref b7), .val (.int (Int32.ofNat (off + ks346.length))), .val (.int (Int32.ofNat off)), .unset, .unset, .unset, .unset] [(.int (Int32.ofNat (off + ks346.length))), (.ref b7)]))
  refine own_go (fun t_ k_ => XS.iload A338.here hx rfl (hb hby at_384) rfl k_) ?_
  show own_Go _ _ _ _ (T337.setTop (mkF m 386 #[.val (.int p0), .val (.int p1), .val (.long q2), .second, .val (.int p3), .val (.int (Int32.ofNat off)), .val (.int (Int32.ofNat nb)), .val (.int (if neg = true then (1 : Int32) else 0)), .val (.int (Int32.ofNat ni)), .val (.int (if pt = true then (1 : Int32) else 0)), .val (.int (Int32.ofNat nf)), .val (.int (Int32.ofNat nt)), .val (.int bg), .val (.ref b7), .val (.int (Int32.ofNat (off + ks346.length))), .val (.int (Int32.ofNat off)), .unset, .unset, .unset, .unset] [(.int (Int32.ofNat ni)), (.int (Int32.ofNat (off + ks346.length))), (.ref b7)]))
  refine own_go (fun t_ k_ => XS.iconst A338.here hx rfl (hb hby at_386) k_) ?_
  show own_Go _ _ _ _ (T337.setTop (mkF m 387 #[.val (.int p0), .val (.int p1), .val (.long q2), .second, .val (.int p3), .val (.int (Int32.ofNat off)), .val (.int (Int32.ofNat nb)), .val (.int (if neg = true then (1 : Int32) else 0)), .val (.int (Int32.ofNat ni)), .val (.int (if pt = true then (1 : Int32) else 0)), .val (.int (Int32.ofNat nf)), .val (.int (Int32.ofNat nt)), .val (.int bg), .val (.ref b7), .val (.int (Int32.ofNat (off + ks346.length))), .val (.int (Int32.ofNat off)), .unset, .unset, .unset, .unset] [(.int (3 : Int32)), (.int (Int32.ofNat ni)), (.int (Int32.ofNat (off + ks346.length))), (.ref b7)]))
  have mg352 : ∀ t_, Steps p.tables e below (T337.setTop (mkF m 395 #[.val (.int p0), .val (.int p1), .val (.long q2), .second, .val (.int p3), .val (.int (Int32.ofNat off)), .val (.int (Int32.ofNat nb)), .val (.int (if neg = true then (1 : Int32) else 0)), .val (.int (Int32.ofNat ni)), .val (.int (if pt = true then (1 : Int32) else 0)), .val (.int (Int32.ofNat nf)), .val (.int (Int32.ofNat nt)), .val (.int bg), .val (.ref b7), .val (.int (Int32.ofNat (off + ks346.length))), .val (.int (Int32.ofNat off)), .unset, .unset, .unset, .unset] [(.int (if (3 : Int32) < (Int32.ofNat ni) then (1 : Int32) else (0 : Int32))), (.int (Int32.ofNat (off + ks346.length))), (.ref b7)])) t_ → Steps p.tables e below (T337.setTop (mkF m 387 #[.val (.int p0), .val (.int p1), .val (.long q2), .second, .val (.int p3), .val (.int (Int32.ofNat off)), .val (.int (Int32.ofNat nb)), .val (.int (if neg = true then (1 : Int32) else 0)), .val (.int (Int32.ofNat ni)), .val (.int (if pt = true then (1 : Int32) else 0)), .val (.int (Int32.ofNat nf)), .val (.int (Int32.ofNat nt)), .val (.int bg), .val (.ref b7), .val (.int (Int32.ofNat (off + ks346.length))), .val (.int (Int32.ofNat off)), .unset, .unset, .unset, .unset] [(.int (3 : Int32)), (.int (Int32.ofNat ni)), (.int (Int32.ofNat (off + ks346.length))), (.ref b7)])) t_ := by
    intro t_ k_
    by_cases hm387_0 : (3 : Int32) < (Int32.ofNat ni)
    ·
      simp only [if_pos hm387_0] at k_
      exact (XS.icmpNo A338.here hx rfl (hb hby at_387) rfl (tlt hm387_0).2.2.2 (XS.iconst A338.here hx rfl (hb hby at_390) (XS.goto A338.here hx rfl (pc0 := 391) (pc' := 395) rfl (hb hby at_391) (by decide) (by decide) k_)))
    ·
      simp only [if_neg hm387_0] at k_
      exact (XS.icmpYes A338.here hx rfl (pc0 := 387) (pc' := 394) rfl (hb hby at_387) rfl (flt hm387_0).2.2.2 (by decide) (by decide) (XS.iconst A338.here hx rfl (hb hby at_394) k_))
  refine own_go mg352 ?_
  show own_Go _ _ _ _ (T337.setTop (mkF m 395 #[.val (.int p0), .val (.int p1), .val (.long q2), .second, .val (.int p3), .val (.int (Int32.ofNat off)), .val (.int (Int32.ofNat nb)), .val (.int (if neg = true then (1 : Int32) else 0)), .val (.int (Int32.ofNat ni)), .val (.int (if pt = true then (1 : Int32) else 0)), .val (.int (Int32.ofNat nf)), .val (.int (Int32.ofNat nt)), .val (.int bg), .val (.ref b7), .val (.int (Int32.ofNat (off + ks346.length))), .val (.int (Int32.ofNat off)), .unset, .unset, .unset, .unset] [(.int (if (3 : Int32) < (Int32.ofNat ni) then (1 : Int32) else (0 : Int32))), (.int (Int32.ofNat (off + ks346.length))), (.ref b7)]))
  refine own_go (fun t_ k_ => XS.lloadN A338.here hx rfl (hb hby at_395) rfl k_) ?_
  show own_Go _ _ _ _ (T337.setTop (mkF m 396 #[.val (.int p0), .val (.int p1), .val (.long q2), .second, .val (.int p3), .val (.int (Int32.ofNat off)), .val (.int (Int32.ofNat nb)), .val (.int (if neg = true then (1 : Int32) else 0)), .val (.int (Int32.ofNat ni)), .val (.int (if pt = true then (1 : Int32) else 0)), .val (.int (Int32.ofNat nf)), .val (.int (Int32.ofNat nt)), .val (.int bg), .val (.ref b7), .val (.int (Int32.ofNat (off + ks346.length))), .val (.int (Int32.ofNat off)), .unset, .unset, .unset, .unset] [(.long q2), (.int (if (3 : Int32) < (Int32.ofNat ni) then (1 : Int32) else (0 : Int32))), (.int (Int32.ofNat (off + ks346.length))), (.ref b7)]))
  refine own_go (fun t_ k_ => XS.iconst A338.here hx rfl (hb hby at_396) k_) ?_
  show own_Go _ _ _ _ (T337.setTop (mkF m 397 #[.val (.int p0), .val (.int p1), .val (.long q2), .second, .val (.int p3), .val (.int (Int32.ofNat off)), .val (.int (Int32.ofNat nb)), .val (.int (if neg = true then (1 : Int32) else 0)), .val (.int (Int32.ofNat ni)), .val (.int (if pt = true then (1 : Int32) else 0)), .val (.int (Int32.ofNat nf)), .val (.int (Int32.ofNat nt)), .val (.int bg), .val (.ref b7), .val (.int (Int32.ofNat (off + ks346.length))), .val (.int (Int32.ofNat off)), .unset, .unset, .unset, .unset] [(.int (3 : Int32)), (.long q2), (.int (if (3 : Int32) < (Int32.ofNat ni) then (1 : Int32) else (0 : Int32))), (.int (Int32.ofNat (off + ks346.length))), (.ref b7)]))
  refine own_callS A338 hx hZ hown (y := (⟨"com/example/indexloom/indexloom/data/DataLineScalePinLaw", "digit", "(JI)B"⟩ : MethodName)) (hw _ (List.mem_of_getElem? (i := 8) rfl)) (hw _ (List.mem_of_getElem? (i := 9) rfl)) (hw _ (List.mem_of_getElem? (i := 3) rfl)) (hw _ (List.mem_of_getElem? (i := 10) rfl)) (by decide) (argsL := [(.long q2), (.int (3 : Int32))]) (rest := [(.int (if (3 : Int32) < (Int32.ofNat ni) then (1 : Int32) else (0 : Int32))), (.int (Int32.ofNat (off + ks346.length))), (.ref b7)]) (rm3 l Z a0 hw q2 (3 : Int32) h339 n0 ) 3 (by decide) (by decide) rfl (by rw [hml]; rfl) (lenOf pd__JI_B rfl) rfl (by show 2 * 0 + _ ≤ _; exact Nat.le_of_eq rfl) (hb hby at_397) (by decide) (by decide) (fun v356 T353 h355 A354 hQ357 => ?_)
  obtain ⟨rfl, rfl⟩ := hQ357
  show own_Go _ _ _ _ (T353.setTop (mkF m 400 #[.val (.int p0), .val (.int p1), .val (.long q2), .second, .val (.int p3), .val (.int (Int32.ofNat off)), .val (.int (Int32.ofNat nb)), .val (.int (if neg = true then (1 : Int32) else 0)), .val (.int (Int32.ofNat ni)), .val (.int (if pt = true then (1 : Int32) else 0)), .val (.int (Int32.ofNat nf)), .val (.int (Int32.ofNat nt)), .val (.int bg), .val (.ref b7), .val (.int (Int32.ofNat (off + ks346.length))), .val (.int (Int32.ofNat off)), .unset, .unset, .unset, .unset] [(.int (f3 q2 (3 : Int32))), (.int (if (3 : Int32) < (Int32.ofNat ni) then (1 : Int32) else (0 : Int32))), (.int (Int32.ofNat (off + ks346.length))), (.ref b7)]))
  refine own_callS A354 hx hZ hown (y := (⟨"com/example/indexloom/indexloom/data/DataLineScalePinLaw", "put", "([BIZB)I"⟩ : MethodName)) (hw _ (List.mem_of_getElem? (i := 5) rfl)) (hw _ (List.mem_of_getElem? (i := 6) rfl)) (hw _ (List.mem_of_getElem? (i := 3) rfl)) (hw _ (List.mem_of_getElem? (i := 7) rfl)) (by decide) (argsL := [(.ref b7), (.int (Int32.ofNat (off + ks346.length))), (.int (if (3 : Int32) < (Int32.ofNat ni) then (1 : Int32) else (0 : Int32))), (.int (f3 q2 (3 : Int32)))]) (rest := []) (rm2 l Z a0 hw b7 (if (3 : Int32) < (Int32.ofNat ni) then (1 : Int32) else (0 : Int32)) (f3 q2 (3 : Int32)) off ks346 fb343 (decide (3 < ni)) 1 h339 n0 V344 g_b7 (by omega) I345 (own_gt ni 3 (by omega) (by decide)) (own_kdig _ _) (by decide)) 0 (by decide) (by decide) rfl (by rw [hml]; rfl) (lenOf pd___BIZB_I rfl) rfl (by show 2 * 0 + _ ≤ _; exact Nat.le_of_eq rfl) (hb hby at_400) (by decide) (by decide) (fun v361 T358 h360 A359 hQ362 => ?_)
  obtain ⟨K363, fb364, rfl, V365, I366⟩ := hQ362
  have hl369 := Nat.le_trans (own_app_len ks346 (decide (3 < ni)) 1) (Nat.succ_le_succ hl348)
  generalize ek368 : own_app ks346 (decide (3 < ni)) 1 = ks367 at I366 hl369
  have Y370 : 0 ≤ h360.size := Nat.le_trans Y349 K363.1
  have O371 : Old Z n0 h360 := O350.keep K363 (allS g_b7 all0)
  have Z372 : n0 ≤ h360.size := Nat.le_trans Z351 K363.1
  show own_Go _ _ _ _ (T358.setTop (mkF m 403 #[.val (.int p0), .val (.int p1), .val (.long q2), .second, .val (.int p3), .val (.int (Int32.ofNat off)), .val (.int (Int32.ofNat nb)), .val (.int (if neg = true then (1 : Int32) else 0)), .val (.int (Int32.ofNat ni)), .val (.int (if pt = true then (1 : Int32) else 0)), .val (.int (Int32.ofNat nf)), .val (.int (Int32.ofNat nt)), .val (.int bg), .val (.ref b7), .val (.int (Int32.ofNat (off + ks346.length))), .val (.int (Int32.ofNat off)), .unset, .unset, .unset, .unset] [(.int (Int32.ofNat (off + ks367.length)))]))
  refine own_go (fun t_ k_ => XS.istore A359.here hx rfl (hb hby at_403) rfl (l' := #[.val (.int p0), .val (.int p1), .val (.long q2), .second, .val (.int p3), .val (.int (Int32.ofNat off)), .val (.int (Int32.ofNat nb)), .val (.int (if neg = true then (1 : Int32) else 0)), .val (.int (Int32.ofNat ni)), .val (.int (if pt = true then (1 : Int32) else 0)), .val (.int (Int32.ofNat nf)), .val (.int (Int32.ofNat nt)), .val (.int bg), .val (.ref b7), .val (.int (Int32.ofNat (off + ks367.length))), .val (.int (Int32.ofNat off)), .unset, .unset, .unset, .unset]) rfl k_) ?_
  show own_Go _ _ _ _ (T358.setTop (mkF m 405 #[.val (.int p0), .val (.int p1), .val (.long q2), .second, .val (.int p3), .val (.int (Int32.ofNat off)), .val (.int (Int32.ofNat nb)), .val (.int (if neg = true then (1 : Int32) else 0)), .val (.int (Int32.ofNat ni)), .val (.int (if pt = true then (1 : Int32) else 0)), .val (.int (Int32.ofNat nf)), .val (.int (Int32.ofNat nt)), .val (.int bg), .val (.ref b7), .val (.int (Int32.ofNat (off + ks367.length))), .val (.int (Int32.ofNat off)), .unset, .unset, .unset, .unset] []))
  refine own_go (fun t_ k_ => XS.aload A359.here hx rfl (hb hby at_405) rfl rfl k_) ?_
  show own_Go _ _ _ _ (T358.setTop (mkF m 407 #[.val (.int p0), .val (.int p1), .val (.long q2), .second, .val (.int p3), .val (.int (Int32.ofNat off)), .val (.int (Int32.ofNat nb)), .val (.int (if neg = true then (1 : Int32) else 0)), .val (.int (Int32.ofNat ni)), .val (.int (if pt = true then (1 : Int32) else 0)), .val (.int (Int32.ofNat nf)), .val (.int (Int32.ofNat nt)), .val (.int bg), .val (.ref b7), .val (.int (Int32.ofNat (off + ks367.length))), .val (.int (Int32.ofNat off)), .unset, .unset, .unset, .unset] [(.ref b7)]))
  refine own_go (fun t_ k_ => XS.iload A359.here hx rfl (hb hby at_407) rfl k_) ?_
  show own_Go _ _ _ _ (T358.setTop (mkF m 409 #[.val (.int p0), .val (.int p1), .val (.long q2), .second, .val (.int p3), .val (.int (Int32.ofNat off)), .val (.int (Int32.ofNat nb)), .val (.int (if neg = true then (1 : Int32) else 0)), .val (.int (Int32.ofNat ni)), .val (.int (if pt = true then (1 : Int32) else 0)), .val (.int (Int32.ofNat nf)), .val (.int (Int32.ofNat nt)), .val (.int bg), .val (.ref b7), .val (.int (Int32.ofNat (off + ks367.length))), .val (.int (Int32.ofNat off)), .unset, .unset, .unset, .unset] [(.int (Int32.ofNat (off + ks367.length))), (.ref b7)]))
  refine own_go (fun t_ k_ => XS.iload A359.here hx rfl (hb hby at_409) rfl k_) ?_
  show own_Go _ _ _ _ (T358.setTop (mkF m 411 #[.val (.int p0), .val (.int p1), .val (.long q2), .second, .val (.int p3), .val (.int (Int32.ofNat off)), .val (.int (Int32.ofNat nb)), .val (.int (if neg = true then (1 : Int32) else 0)), .val (.int (Int32.ofNat ni)), .val (.int (if pt = true then (1 : Int32) else 0)), .val (.int (Int32.ofNat nf)), .val (.int (Int32.ofNat nt)), .val (.int bg), .val (.ref b7), .val (.int (Int32.ofNat (off + ks367.length))), .val (.int (Int32.ofNat off)), .unset, .unset, .unset, .unset] [(.int (if pt = true then (1 : Int32) else 0)), (.int (Int32.ofNat (off + ks367.length))), (.ref b7)]))
  refine own_go (fun t_ k_ => XS.bipush A359.here hx rfl (hb hby at_411) k_) ?_
  show own_Go _ _ _ _ (T358.setTop (mkF m 413 #[.val (.int p0), .val (.int p1), .val (.long q2), .second, .val (.int p3), .val (.int (Int32.ofNat off)), .val (.int (Int32.ofNat nb)), .val (.int (if neg = true then (1 : Int32) else 0)), .val (.int (Int32.ofNat ni)), .val (.int (if pt = true then (1 : Int32) else 0)), .val (.int (Int32.ofNat nf)), .val (.int (Int32.ofNat nt)), .val (.int bg), .val (.ref b7), .val (.int (Int32.ofNat (off + ks367.length))), .val (.int (Int32.ofNat off)), .unset, .unset, .unset, .unset] [(.int (46 : Int32)), (.int (if pt = true then (1 : Int32) else 0)), (.int (Int32.ofNat (off + ks367.length))), (.ref b7)]))
  refine own_callS A359 hx hZ hown (y := (⟨"com/example/indexloom/indexloom/data/DataLineScalePinLaw", "put", "([BIZB)I"⟩ : MethodName)) (hw _ (List.mem_of_getElem? (i := 5) rfl)) (hw _ (List.mem_of_getElem? (i := 6) rfl)) (hw _ (List.mem_of_getElem? (i := 3) rfl)) (hw _ (List.mem_of_getElem? (i := 7) rfl)) (by decide) (argsL := [(.ref b7), (.int (Int32.ofNat (off + ks367.length))), (.int (if pt = true then (1 : Int32) else 0)), (.int (46 : Int32))]) (rest := []) (rm2 l Z a0 hw b7 (if pt = true then (1 : Int32) else 0) (46 : Int32) off ks367 fb364 pt 2 h360 n0 V365 g_b7 (by omega) I366 rfl rfl (by decide)) 0 (by decide) (by decide) rfl (by rw [hml]; rfl) (lenOf pd___BIZB_I rfl) rfl (by show 2 * 0 + _ ≤ _; exact Nat.le_of_eq rfl) (hb hby at_413) (by decide) (by decide) (fun v376 T373 h375 A374 hQ377 => ?_)
  obtain ⟨K378, fb379, rfl, V380, I381⟩ := hQ377
  have hl384 := Nat.le_trans (own_app_len ks367 pt 2) (Nat.succ_le_succ hl369)
  generalize ek383 : own_app ks367 pt 2 = ks382 at I381 hl384
  have Y385 : 0 ≤ h375.size := Nat.le_trans Y370 K378.1
  have O386 : Old Z n0 h375 := O371.keep K378 (allS g_b7 all0)
  have Z387 : n0 ≤ h375.size := Nat.le_trans Z372 K378.1
  show own_Go _ _ _ _ (T373.setTop (mkF m 416 #[.val (.int p0), .val (.int p1), .val (.long q2), .second, .val (.int p3), .val (.int (Int32.ofNat off)), .val (.int (Int32.ofNat nb)), .val (.int (if neg = true then (1 : Int32) else 0)), .val (.int (Int32.ofNat ni)), .val (.int (if pt = true then (1 : Int32) else 0)), .val (.int (Int32.ofNat nf)), .val (.int (Int32.ofNat nt)), .val (.int bg), .val (.ref b7), .val (.int (Int32.ofNat (off + ks367.length))), .val (.int (Int32.ofNat off)), .unset, .unset, .unset, .unset] [(.int (Int32.ofNat (off + ks382.length)))]))
  refine own_go (fun t_ k_ => XS.istore A374.here hx rfl (hb hby at_416) rfl (l' := #[.val (.int p0), .val (.int p1), .val (.long q2), .second, .val (.int p3), .val (.int (Int32.ofNat off)), .val (.int (Int32.ofNat nb)), .val (.int (if neg = true then (1 : Int32) else 0)), .val (.int (Int32.ofNat ni)), .val (.int (if pt = true then (1 : Int32) else 0)), .val (.int (Int32.ofNat nf)), .val (.int (Int32.ofNat nt)), .val (.int bg), .val (.ref b7), .val (.int (Int32.ofNat (off + ks382.length))), .val (.int (Int32.ofNat off)), .unset, .unset, .unset, .unset]) rfl k_) ?_
  show own_Go _ _ _ _ (T373.setTop (mkF m 418 #[.val (.int p0), .val (.int p1), .val (.long q2), .second, .val (.int p3), .val (.int (Int32.ofNat off)), .val (.int (Int32.ofNat nb)), .val (.int (if neg = true then (1 : Int32) else 0)), .val (.int (Int32.ofNat ni)), .val (.int (if pt = true then (1 : Int32) else 0)), .val (.int (Int32.ofNat nf)), .val (.int (Int32.ofNat nt)), .val (.int bg), .val (.ref b7), .val (.int (Int32.ofNat (off + ks382.length))), .val (.int (Int32.ofNat off)), .unset, .unset, .unset, .unset] []))
  refine own_go (fun t_ k_ => XS.aload A374.here hx rfl (hb hby at_418) rfl rfl k_) ?_
  show own_Go _ _ _ _ (T373.setTop (mkF m 420 #[.val (.int p0), .val (.int p1), .val (.long q2), .second, .val (.int p3), .val (.int (Int32.ofNat off)), .val (.int (Int32.ofNat nb)), .val (.int (if neg = true then (1 : Int32) else 0)), .val (.int (Int32.ofNat ni)), .val (.int (if pt = true then (1 : Int32) else 0)), .val (.int (Int32.ofNat nf)), .val (.int (Int32.ofNat nt)), .val (.int bg), .val (.ref b7), .val (.int (Int32.ofNat (off + ks382.length))), .val (.int (Int32.ofNat off)), .unset, .unset, .unset, .unset] [(.ref b7)]))
  refine own_go (fun t_ k_ => XS.iload A374.here hx rfl (hb hby at_420) rfl k_) ?_
  show own_Go _ _ _ _ (T373.setTop (mkF m 422 #[.val (.int p0), .val (.int p1), .val (.long q2), .second, .val (.int p3), .val (.int (Int32.ofNat off)), .val (.int (Int32.ofNat nb)), .val (.int (if neg = true then (1 : Int32) else 0)), .val (.int (Int32.ofNat ni)), .val (.int (if pt = true then (1 : Int32) else 0)), .val (.int (Int32.ofNat nf)), .val (.int (Int32.ofNat nt)), .val (.int bg), .val (.ref b7), .val (.int (Int32.ofNat (off + ks382.length))), .val (.int (Int32.ofNat off)), .unset, .unset, .unset, .unset] [(.int (Int32.ofNat (off + ks382.length))), (.ref b7)]))
  refine own_go (fun t_ k_ => XS.iload A374.here hx rfl (hb hby at_422) rfl k_) ?_
  show own_Go _ _ _ _ (T373.setTop (mkF m 424 #[.val (.int p0), .val (.int p1), .val (.long q2), .second, .val (.int p3), .val (.int (Int32.ofNat off)), .val (.int (Int32.ofNat nb)), .val (.int (if neg = true then (1 : Int32) else 0)), .val (.int (Int32.ofNat ni)), .val (.int (if pt = true then (1 : Int32) else 0)), .val (.int (Int32.ofNat nf)), .val (.int (Int32.ofNat nt)), .val (.int bg), .val (.ref b7), .val (.int (Int32.ofNat (off + ks382.length))), .val (.int (Int32.ofNat off)), .unset, .unset, .unset, .unset] [(.int (if pt = true then (1 : Int32) else 0)), (.int (Int32.ofNat (off + ks382.length))), (.ref b7)]))
  refine own_go (fun t_ k_ => XS.lloadN A374.here hx rfl (hb hby at_424) rfl k_) ?_
  show own_Go _ _ _ _ (T373.setTop (mkF m 425 #[.val (.int p0), .val (.int p1), .val (.long q2), .second, .val (.int p3), .val (.int (Int32.ofNat off)), .val (.int (Int32.ofNat nb)), .val (.int (if neg = true then (1 : Int32) else 0)), .val (.int (Int32.ofNat ni)), .val (.int (if pt = true then (1 : Int32) else 0)), .val (.int (Int32.ofNat nf)), .val (.int (Int32.ofNat nt)), .val (.int bg), .val (.ref b7), .val (.int (Int32.ofNat (off + ks382.length))), .val (.int (Int32.ofNat off)), .unset, .unset, .unset, .unset] [(.long q2), (.int (if pt = true then (1 : Int32) else 0)), (.int (Int32.ofNat (off + ks382.length))), (.ref b7)]))
  refine own_go (fun t_ k_ => XS.iconst A374.here hx rfl (hb hby at_425) k_) ?_
  show own_Go _ _ _ _ (T373.setTop (mkF m 426 #[.val (.int p0), .val (.int p1), .val (.long q2), .second, .val (.int p3), .val (.int (Int32.ofNat off)), .val (.int (Int32.ofNat nb)), .val (.int (if neg = true then (1 : Int32) else 0)), .val (.int (Int32.ofNat ni)), .val (.int (if pt = true then (1 : Int32) else 0)), .val (.int (Int32.ofNat nf)), .val (.int (Int32.ofNat nt)), .val (.int bg), .val (.ref b7), .val (.int (Int32.ofNat (off + ks382.length))), .val (.int (Int32.ofNat off)), .unset, .unset, .unset, .unset] [(.int (4 : Int32)), (.long q2), (.int (if pt = true then (1 : Int32) else 0)), (.int (Int32.ofNat (off + ks382.length))), (.ref b7)]))
  refine own_callS A374 hx hZ hown (y := (⟨"com/example/indexloom/indexloom/data/DataLineScalePinLaw", "digit", "(JI)B"⟩ : MethodName)) (hw _ (List.mem_of_getElem? (i := 8) rfl)) (hw _ (List.mem_of_getElem? (i := 9) rfl)) (hw _ (List.mem_of_getElem? (i := 3) rfl)) (hw _ (List.mem_of_getElem? (i := 10) rfl)) (by decide) (argsL := [(.long q2), (.int (4 : Int32))]) (rest := [(.int (if pt = true then (1 : Int32) else 0)), (.int (Int32.ofNat (off + ks382.length))), (.ref b7)]) (rm3 l Z a0 hw q2 (4 : Int32) h375 n0 ) 3 (by decide) (by decide) rfl (by rw [hml]; rfl) (lenOf pd__JI_B rfl) rfl (by show 2 * 0 + _ ≤ _; exact Nat.le_of_eq rfl) (hb hby at_426) (by decide) (by decide) (fun v391 T388 h390 A389 hQ392 => ?_)
  obtain ⟨rfl, rfl⟩ := hQ392
  show own_Go _ _ _ _ (T388.setTop (mkF m 429 #[.val (.int p0), .val (.int p1), .val (.long q2), .second, .val (.int p3), .val (.int (Int32.ofNat off)), .val (.int (Int32.ofNat nb)), .val (.int (if neg = true then (1 : Int32) else 0)), .val (.int (Int32.ofNat ni)), .val (.int (if pt = true then (1 : Int32) else 0)), .val (.int (Int32.ofNat nf)), .val (.int (Int32.ofNat nt)), .val (.int bg), .val (.ref b7), .val (.int (Int32.ofNat (off + ks382.length))), .val (.int (Int32.ofNat off)), .unset, .unset, .unset, .unset] [(.int (f3 q2 (4 : Int32))), (.int (if pt = true then (1 : Int32) else 0)), (.int (Int32.ofNat (off + ks382.length))), (.ref b7)]))
  refine own_callS A389 hx hZ hown (y := (⟨"com/example/indexloom/indexloom/data/DataLineScalePinLaw", "put", "([BIZB)I"⟩ : MethodName)) (hw _ (List.mem_of_getElem? (i := 5) rfl)) (hw _ (List.mem_of_getElem? (i := 6) rfl)) (hw _ (List.mem_of_getElem? (i := 3) rfl)) (hw _ (List.mem_of_getElem? (i := 7) rfl)) (by decide) (argsL := [(.ref b7), (.int (Int32.ofNat (off + ks382.length))), (.int (if pt = true then (1 : Int32) else 0)), (.int (f3 q2 (4 : Int32)))]) (rest := []) (rm2 l Z a0 hw b7 (if pt = true then (1 : Int32) else 0) (f3 q2 (4 : Int32)) off ks382 fb379 pt 1 h375 n0 V380 g_b7 (by omega) I381 rfl (own_kdig _ _) (by decide)) 0 (by decide) (by decide) rfl (by rw [hml]; rfl) (lenOf pd___BIZB_I rfl) rfl (by show 2 * 0 + _ ≤ _; exact Nat.le_of_eq rfl) (hb hby at_429) (by decide) (by decide) (fun v396 T393 h395 A394 hQ397 => ?_)
  obtain ⟨K398, fb399, rfl, V400, I401⟩ := hQ397
  have hl404 := Nat.le_trans (own_app_len ks382 pt 1) (Nat.succ_le_succ hl384)
  generalize ek403 : own_app ks382 pt 1 = ks402 at I401 hl404
  have Y405 : 0 ≤ h395.size := Nat.le_trans Y385 K398.1
  have O406 : Old Z n0 h395 := O386.keep K398 (allS g_b7 all0)
  have Z407 : n0 ≤ h395.size := Nat.le_trans Z387 K398.1
  show own_Go _ _ _ _ (T393.setTop (mkF m 432 #[.val (.int p0), .val (.int p1), .val (.long q2), .second, .val (.int p3), .val (.int (Int32.ofNat off)), .val (.int (Int32.ofNat nb)), .val (.int (if neg = true then (1 : Int32) else 0)), .val (.int (Int32.ofNat ni)), .val (.int (if pt = true then (1 : Int32) else 0)), .val (.int (Int32.ofNat nf)), .val (.int (Int32.ofNat nt)), .val (.int bg), .val (.ref b7), .val (.int (Int32.ofNat (off + ks382.length))), .val (.int (Int32.ofNat off)), .unset, .unset, .unset, .unset] [(.int (Int32.ofNat (off + ks402.length)))]))
  refine own_go (fun t_ k_ => XS.istore A394.here hx rfl (hb hby at_432) rfl (l' := #[.val (.int p0), .val (.int p1), .val (.long q2), .second, .val (.int p3), .val (.int (Int32.ofNat off)), .val (.int (Int32.ofNat nb)), .val (.int (if neg = true then (1 : Int32) else 0)), .val (.int (Int32.ofNat ni)), .val (.int (if pt = true then (1 : Int32) else 0)), .val (.int (Int32.ofNat nf)), .val (.int (Int32.ofNat nt)), .val (.int bg), .val (.ref b7), .val (.int (Int32.ofNat (off + ks402.length))), .val (.int (Int32.ofNat off)), .unset, .unset, .unset, .unset]) rfl k_) ?_
  show own_Go _ _ _ _ (T393.setTop (mkF m 434 #[.val (.int p0), .val (.int p1), .val (.long q2), .second, .val (.int p3), .val (.int (Int32.ofNat off)), .val (.int (Int32.ofNat nb)), .val (.int (if neg = true then (1 : Int32) else 0)), .val (.int (Int32.ofNat ni)), .val (.int (if pt = true then (1 : Int32) else 0)), .val (.int (Int32.ofNat nf)), .val (.int (Int32.ofNat nt)), .val (.int bg), .val (.ref b7), .val (.int (Int32.ofNat (off + ks402.length))), .val (.int (Int32.ofNat off)), .unset, .unset, .unset, .unset] []))
  refine own_go (fun t_ k_ => XS.aload A394.here hx rfl (hb hby at_434) rfl rfl k_) ?_
  show own_Go _ _ _ _ (T393.setTop (mkF m 436 #[.val (.int p0), .val (.int p1), .val (.long q2), .second, .val (.int p3), .val (.int (Int32.ofNat off)), .val (.int (Int32.ofNat nb)), .val (.int (if neg = true then (1 : Int32) else 0)), .val (.int (Int32.ofNat ni)), .val (.int (if pt = true then (1 : Int32) else 0)), .val (.int (Int32.ofNat nf)), .val (.int (Int32.ofNat nt)), .val (.int bg), .val (.ref b7), .val (.int (Int32.ofNat (off + ks402.length))), .val (.int (Int32.ofNat off)), .unset, .unset, .unset, .unset] [(.ref b7)]))
  refine own_go (fun t_ k_ => XS.iload A394.here hx rfl (hb hby at_436) rfl k_) ?_
  show own_Go _ _ _ _ (T393.setTop (mkF m 438 #[.val (.int p0), .val (.int p1), .val (.long q2), .second, .val (.int p3), .val (.int (Int32.ofNat off)), .val (.int (Int32.ofNat nb)), .val (.int (if neg = true then (1 : Int32) else 0)), .val (.int (Int32.ofNat ni)), .val (.int (if pt = true then (1 : Int32) else 0)), .val (.int (Int32.ofNat nf)), .val (.int (Int32.ofNat nt)), .val (.int bg), .val (.ref b7), .val (.int (Int32.ofNat (off + ks402.length))), .val (.int (Int32.ofNat off)), .unset, .unset, .unset, .unset] [(.int (Int32.ofNat (off + ks402.length))), (.ref b7)]))
  refine own_go (fun t_ k_ => XS.iload A394.here hx rfl (hb hby at_438) rfl k_) ?_
  show own_Go _ _ _ _ (T393.setTop (mkF m 440 #[.val (.int p0), .val (.int p1), .val (.long q2), .second, .val (.int p3), .val (.int (Int32.ofNat off)), .val (.int (Int32.ofNat nb)), .val (.int (if neg = true then (1 : Int32) else 0)), .val (.int (Int32.ofNat ni)), .val (.int (if pt = true then (1 : Int32) else 0)), .val (.int (Int32.ofNat nf)), .val (.int (Int32.ofNat nt)), .val (.int bg), .val (.ref b7), .val (.int (Int32.ofNat (off + ks402.length))), .val (.int (Int32.ofNat off)), .unset, .unset, .unset, .unset] [(.int (if pt = true then (1 : Int32) else 0)), (.int (Int32.ofNat (off + ks402.length))), (.ref b7)]))
  have mg408 : ∀ t_, Steps p.tables e below (T393.setTop (mkF m 454 #[.val (.int p0), .val (.int p1), .val (.long q2), .second, .val (.int p3), .val (.int (Int32.ofNat off)), .val (.int (Int32.ofNat nb)), .val (.int (if neg = true then (1 : Int32) else 0)), .val (.int (Int32.ofNat ni)), .val (.int (if pt = true then (1 : Int32) else 0)), .val (.int (Int32.ofNat nf)), .val (.int (Int32.ofNat nt)), .val (.int bg), .val (.ref b7), .val (.int (Int32.ofNat (off + ks402.length))), .val (.int (Int32.ofNat off)), .unset, .unset, .unset, .unset] [(.int (if (if pt = true then (1 : Int32) else 0) = (0 : Int32) then (0 : Int32) else (if (1 : Int32) < (Int32.ofNat nf) then (1 : Int32) else (0 : Int32)))), (.int (Int32.ofNat (off + ks402.length))), (.ref b7)])) t_ → Steps p.tables e below (T393.setTop (mkF m 440 #[.val (.int p0), .val (.int p1), .val (.long q2), .second, .val (.int p3), .val (.int (Int32.ofNat off)), .val (.int (Int32.ofNat nb)), .val (.int (if neg = true then (1 : Int32) else 0)), .val (.int (Int32.ofNat ni)), .val (.int (if pt = true then (1 : Int32) else 0)), .val (.int (Int32.ofNat nf)), .val (.int (Int32.ofNat nt)), .val (.int bg), .val (.ref b7), .val (.int (Int32.ofNat (off + ks402.length))), .val (.int (Int32.ofNat off)), .unset, .unset, .unset, .unset] [(.int (if pt = true then (1 : Int32) else 0)), (.int (Int32.ofNat (off + ks402.length))), (.ref b7)])) t_ := by
    intro t_ k_
    by_cases hm440_0 : (if pt = true then (1 : Int32) else 0) = (0 : Int32)
    ·
      simp only [if_pos hm440_0] at k_
      exact (XS.ifYes A394.here hx rfl (pc0 := 440) (pc' := 453) rfl (hb hby at_440) rfl ((if0 _ _).trans (teq hm440_0).1) (by decide) (by decide) (XS.iconst A394.here hx rfl (hb hby at_453) k_))
    ·
      refine XS.ifNo A394.here hx rfl (hb hby at_440) rfl ((if0 _ _).trans (feq hm440_0).1) (XS.iload A394.here hx rfl (hb hby at_443) rfl (XS.iconst A394.here hx rfl (hb hby at_445) ?_))
      by_cases hm446_1 : (1 : Int32) < (Int32.ofNat nf)
      ·
        simp only [if_neg hm440_0, if_pos hm446_1] at k_
        exact (XS.icmpNo A394.here hx rfl (hb hby at_446) rfl (tlt hm446_1).2.2.2 (XS.iconst A394.here hx rfl (hb hby at_449) (XS.goto A394.here hx rfl (pc0 := 450) (pc' := 454) rfl (hb hby at_450) (by decide) (by decide) k_)))
      ·
        simp only [if_neg hm440_0, if_neg hm446_1] at k_
        exact (XS.icmpYes A394.here hx rfl (pc0 := 446) (pc' := 453) rfl (hb hby at_446) rfl (flt hm446_1).2.2.2 (by decide) (by decide) (XS.iconst A394.here hx rfl (hb hby at_453) k_))
  refine own_go mg408 ?_
  show own_Go _ _ _ _ (T393.setTop (mkF m 454 #[.val (.int p0), .val (.int p1), .val (.long q2), .second, .val (.int p3), .val (.int (Int32.ofNat off)), .val (.int (Int32.ofNat nb)), .val (.int (if neg = true then (1 : Int32) else 0)), .val (.int (Int32.ofNat ni)), .val (.int (if pt = true then (1 : Int32) else 0)), .val (.int (Int32.ofNat nf)), .val (.int (Int32.ofNat nt)), .val (.int bg), .val (.ref b7), .val (.int (Int32.ofNat (off + ks402.length))), .val (.int (Int32.ofNat off)), .unset, .unset, .unset, .unset] [(.int (if (if pt = true then (1 : Int32) else 0) = (0 : Int32) then (0 : Int32) else (if (1 : Int32) < (Int32.ofNat nf) then (1 : Int32) else (0 : Int32)))), (.int (Int32.ofNat (off + ks402.length))), (.ref b7)]))
  refine own_go (fun t_ k_ => XS.lloadN A394.here hx rfl (hb hby at_454) rfl k_) ?_
  show own_Go _ _ _ _ (T393.setTop (mkF m 455 #[.val (.int p0), .val (.int p1), .val (.long q2), .second, .val (.int p3), .val (.int (Int32.ofNat off)), .val (.int (Int32.ofNat nb)), .val (.int (if neg = true then (1 : Int32) else 0)), .val (.int (Int32.ofNat ni)), .val (.int (if pt = true then (1 : Int32) else 0)), .val (.int (Int32.ofNat nf)), .val (.int (Int32.ofNat nt)), .val (.int bg), .val (.ref b7), .val (.int (Int32.ofNat (off + ks402.length))), .val (.int (Int32.ofNat off)), .unset, .unset, .unset, .unset] [(.long q2), (.int (if (if pt = true then (1 : Int32) else 0) = (0 : Int32) then (0 : Int32) else (if (1 : Int32) < (Int32.ofNat nf) then (1 : Int32) else (0 : Int32)))), (.int (Int32.ofNat (off + ks402.length))), (.ref b7)]))
  refine own_go (fun t_ k_ => XS.iconst A394.here hx rfl (hb hby at_455) k_) ?_
  show own_Go _ _ _ _ (T393.setTop (mkF m 456 #[.val (.int p0), .val (.int p1), .val (.long q2), .second, .val (.int p3), .val (.int (Int32.ofNat off)), .val (.int (Int32.ofNat nb)), .val (.int (if neg = true then (1 : Int32) else 0)), .val (.int (Int32.ofNat ni)), .val (.int (if pt = true then (1 : Int32) else 0)), .val (.int (Int32.ofNat nf)), .val (.int (Int32.ofNat nt)), .val (.int bg), .val (.ref b7), .val (.int (Int32.ofNat (off + ks402.length))), .val (.int (Int32.ofNat off)), .unset, .unset, .unset, .unset] [(.int (5 : Int32)), (.long q2), (.int (if (if pt = true then (1 : Int32) else 0) = (0 : Int32) then (0 : Int32) else (if (1 : Int32) < (Int32.ofNat nf) then (1 : Int32) else (0 : Int32)))), (.int (Int32.ofNat (off + ks402.length))), (.ref b7)]))
  refine own_callS A394 hx hZ hown (y := (⟨"com/example/indexloom/indexloom/data/DataLineScalePinLaw", "digit", "(JI)B"⟩ : MethodName)) (hw _ (List.mem_of_getElem? (i := 8) rfl)) (hw _ (List.mem_of_getElem? (i := 9) rfl)) (hw _ (List.mem_of_getElem? (i := 3) rfl)) (hw _ (List.mem_of_getElem? (i := 10) rfl)) (by decide) (argsL := [(.long q2), (.int (5 : Int32))]) (rest := [(.int (if (if pt = true then (1 : Int32) else 0) = (0 : Int32) then (0 : Int32) else (if (1 : Int32) < (Int32.ofNat nf) then (1 : Int32) else (0 : Int32)))), (.int (Int32.ofNat (off + ks402.length))), (.ref b7)]) (rm3 l Z a0 hw q2 (5 : Int32) h395 n0 ) 3 (by decide) (by decide) rfl (by rw [hml]; rfl) (lenOf pd__JI_B rfl) rfl (by show 2 * 0 + _ ≤ _; exact Nat.le_of_eq rfl) (hb hby at_456) (by decide) (by decide) (fun v412 T409 h411 A410 hQ413 => ?_)
  obtain ⟨rfl, rfl⟩ := hQ413
  show own_Go _ _ _ _ (T409.setTop (mkF m 459 #[.val (.int p0), .val (.int p1), .val (.long q2), .second, .val (.int p3), .val (.int (Int32.ofNat off)), .val (.int (Int32.ofNat nb)), .val (.int (if neg = true then (1 : Int32) else 0)), .val (.int (Int32.ofNat ni)), .val (.int (if pt = true then (1 : Int32) else 0)), .val (.int (Int32.ofNat nf)), .val (.int (Int32.ofNat nt)), .val (.int bg), .val (.ref b7), .val (.int (Int32.ofNat (off + ks402.length))), .val (.int (Int32.ofNat off)), .unset, .unset, .unset, .unset] [(.int (f3 q2 (5 : Int32))), (.int (if (if pt = true then (1 : Int32) else 0) = (0 : Int32) then (0 : Int32) else (if (1 : Int32) < (Int32.ofNat nf) then (1 : Int32) else (0 : Int32)))), (.int (Int32.ofNat (off + ks402.length))), (.ref b7)]))
  refine own_callS A410 hx hZ hown (y := (⟨"com/example/indexloom/indexloom/data/DataLineScalePinLaw", "put", "([BIZB)I"⟩ : MethodName)) (hw _ (List.mem_of_getElem? (i := 5) rfl)) (hw _ (List.mem_of_getElem? (i := 6) rfl)) (hw _ (List.mem_of_getElem? (i := 3) rfl)) (hw _ (List.mem_of_getElem? (i := 7) rfl)) (by decide) (argsL := [(.ref b7), (.int (Int32.ofNat (off + ks402.length))), (.int (if (if pt = true then (1 : Int32) else 0) = (0 : Int32) then (0 : Int32) else (if (1 : Int32) < (Int32.ofNat nf) then (1 : Int32) else (0 : Int32)))), (.int (f3 q2 (5 : Int32)))]) (rest := []) (rm2 l Z a0 hw b7 (if (if pt = true then (1 : Int32) else 0) = (0 : Int32) then (0 : Int32) else (if (1 : Int32) < (Int32.ofNat nf) then (1 : Int32) else (0 : Int32))) (f3 q2 (5 : Int32)) off ks402 fb399 (pt && (decide (1 < nf))) 1 h395 n0 V400 g_b7 (by omega) I401 (own_gt2 pt nf 1 (by omega) (by decide)) (own_kdig _ _) (by decide)) 0 (by decide) (by decide) rfl (by rw [hml]; rfl) (lenOf pd___BIZB_I rfl) rfl (by show 2 * 0 + _ ≤ _; exact Nat.le_of_eq rfl) (hb hby at_459) (by decide) (by decide) (fun v417 T414 h416 A415 hQ418 => ?_)
  obtain ⟨K419, fb420, rfl, V421, I422⟩ := hQ418
  have hl425 := Nat.le_trans (own_app_len ks402 (pt && (decide (1 < nf))) 1) (Nat.succ_le_succ hl404)
  generalize ek424 : own_app ks402 (pt && (decide (1 < nf))) 1 = ks423 at I422 hl425
  have Y426 : 0 ≤ h416.size := Nat.le_trans Y405 K419.1
  have O427 : Old Z n0 h416 := O406.keep K419 (allS g_b7 all0)
  have Z428 : n0 ≤ h416.size := Nat.le_trans Z407 K419.1
  show own_Go _ _ _ _ (T414.setTop (mkF m 462 #[.val (.int p0), .val (.int p1), .val (.long q2), .second, .val (.int p3), .val (.int (Int32.ofNat off)), .val (.int (Int32.ofNat nb)), .val (.int (if neg = true then (1 : Int32) else 0)), .val (.int (Int32.ofNat ni)), .val (.int (if pt = true then (1 : Int32) else 0)), .val (.int (Int32.ofNat nf)), .val (.int (Int32.ofNat nt)), .val (.int bg), .val (.ref b7), .val (.int (Int32.ofNat (off + ks402.length))), .val (.int (Int32.ofNat off)), .unset, .unset, .unset, .unset] [(.int (Int32.ofNat (off + ks423.length)))]))
  refine own_go (fun t_ k_ => XS.istore A415.here hx rfl (hb hby at_462) rfl (l' := #[.val (.int p0), .val (.int p1), .val (.long q2), .second, .val (.int p3), .val (.int (Int32.ofNat off)), .val (.int (Int32.ofNat nb)), .val (.int (if neg = true then (1 : Int32) else 0)), .val (.int (Int32.ofNat ni)), .val (.int (if pt = true then (1 : Int32) else 0)), .val (.int (Int32.ofNat nf)), .val (.int (Int32.ofNat nt)), .val (.int bg), .val (.ref b7), .val (.int (Int32.ofNat (off + ks423.length))), .val (.int (Int32.ofNat off)), .unset, .unset, .unset, .unset]) rfl k_) ?_
  show own_Go _ _ _ _ (T414.setTop (mkF m 464 #[.val (.int p0), .val (.int p1), .val (.long q2), .second, .val (.int p3), .val (.int (Int32.ofNat off)), .val (.int (Int32.ofNat nb)), .val (.int (if neg = true then (1 : Int32) else 0)), .val (.int (Int32.ofNat ni)), .val (.int (if pt = true then (1 : Int32) else 0)), .val (.int (Int32.ofNat nf)), .val (.int (Int32.ofNat nt)), .val (.int bg), .val (.ref b7), .val (.int (Int32.ofNat (off + ks423.length))), .val (.int (Int32.ofNat off)), .unset, .unset, .unset, .unset] []))
  refine own_go (fun t_ k_ => XS.aload A415.here hx rfl (hb hby at_464) rfl rfl k_) ?_
  show own_Go _ _ _ _ (T414.setTop (mkF m 466 #[.val (.int p0), .val (.int p1), .val (.long q2), .second, .val (.int p3), .val (.int (Int32.ofNat off)), .val (.int (Int32.ofNat nb)), .val (.int (if neg = true then (1 : Int32) else 0)), .val (.int (Int32.ofNat ni)), .val (.int (if pt = true then (1 : Int32) else 0)), .val (.int (Int32.ofNat nf)), .val (.int (Int32.ofNat nt)), .val (.int bg), .val (.ref b7), .val (.int (Int32.ofNat (off + ks423.length))), .val (.int (Int32.ofNat off)), .unset, .unset, .unset, .unset] [(.ref b7)]))
  refine own_go (fun t_ k_ => XS.iload A415.here hx rfl (hb hby at_466) rfl k_) ?_
  show own_Go _ _ _ _ (T414.setTop (mkF m 468 #[.val (.int p0), .val (.int p1), .val (.long q2), .second, .val (.int p3), .val (.int (Int32.ofNat off)), .val (.int (Int32.ofNat nb)), .val (.int (if neg = true then (1 : Int32) else 0)), .val (.int (Int32.ofNat ni)), .val (.int (if pt = true then (1 : Int32) else 0)), .val (.int (Int32.ofNat nf)), .val (.int (Int32.ofNat nt)), .val (.int bg), .val (.ref b7), .val (.int (Int32.ofNat (off + ks423.length))), .val (.int (Int32.ofNat off)), .unset, .unset, .unset, .unset] [(.int (Int32.ofNat (off + ks423.length))), (.ref b7)]))
  refine own_go (fun t_ k_ => XS.iload A415.here hx rfl (hb hby at_468) rfl k_) ?_
  show own_Go _ _ _ _ (T414.setTop (mkF m 470 #[.val (.int p0), .val (.int p1), .val (.long q2), .second, .val (.int p3), .val (.int (Int32.ofNat off)), .val (.int (Int32.ofNat nb)), .val (.int (if neg = true then (1 : Int32) else 0)), .val (.int (Int32.ofNat ni)), .val (.int (if pt = true then (1 : Int32) else 0)), .val (.int (Int32.ofNat nf)), .val (.int (Int32.ofNat nt)), .val (.int bg), .val (.ref b7), .val (.int (Int32.ofNat (off + ks423.length))), .val (.int (Int32.ofNat off)), .unset, .unset, .unset, .unset] [(.int (if pt = true then (1 : Int32) else 0)), (.int (Int32.ofNat (off + ks423.length))), (.ref b7)]))
  have mg429 : ∀ t_, Steps p.tables e below (T414.setTop (mkF m 484 #[.val (.int p0), .val (.int p1), .val (.long q2), .second, .val (.int p3), .val (.int (Int32.ofNat off)), .val (.int (Int32.ofNat nb)), .val (.int (if neg = true then (1 : Int32) else 0)), .val (.int (Int32.ofNat ni)), .val (.int (if pt = true then (1 : Int32) else 0)), .val (.int (Int32.ofNat nf)), .val (.int (Int32.ofNat nt)), .val (.int bg), .val (.ref b7), .val (.int (Int32.ofNat (off + ks423.length))), .val (.int (Int32.ofNat off)), .unset, .unset, .unset, .unset] [(.int (if (if pt = true then (1 : Int32) else 0) = (0 : Int32) then (0 : Int32) else (if (2 : Int32) < (Int32.ofNat nf) then (1 : Int32) else (0 : Int32)))), (.int (Int32.ofNat (off + ks423.length))), (.ref b7)])) t_ → Steps p.tables e below (T414.setTop (mkF m 470 #[.val (.int p0), .val (.int p1), .val (.long q2), .second, .val (.int p3), .val (.int (Int32.ofNat off)), .val (.int (Int32.ofNat nb)), .val (.int (if neg = true then (1 : Int32) else 0)), .val (.int (Int32.ofNat ni)), .val (.int (if pt = true then (1 : Int32) else 0)), .val (.int (Int32.ofNat nf)), .val (.int (Int32.ofNat nt)), .val (.int bg), .val (.ref b7), .val (.int (Int32.ofNat (off + ks423.length))), .val (.int (Int32.ofNat off)), .unset, .unset, .unset, .unset] [(.int (if pt = true then (1 : Int32) else 0)), (.int (Int32.ofNat (off + ks423.length))), (.ref b7)])) t_ := by
    intro t_ k_
    by_cases hm470_0 : (if pt = true then (1 : Int32) else 0) = (0 : Int32)
    ·
      simp only [if_pos hm470_0] at k_
      exact (XS.ifYes A415.here hx rfl (pc0 := 470) (pc' := 483) rfl (hb hby at_470) rfl ((if0 _ _).trans (teq hm470_0).1) (by decide) (by decide) (XS.iconst A415.here hx rfl (hb hby at_483) k_))
    ·
      refine XS.ifNo A415.here hx rfl (hb hby at_470) rfl ((if0 _ _).trans (feq hm470_0).1) (XS.iload A415.here hx rfl (hb hby at_473) rfl (XS.iconst A415.here hx rfl (hb hby at_475) ?_))
      by_cases hm476_1 : (2 : Int32) < (Int32.ofNat nf)
      ·
        simp only [if_neg hm470_0, if_pos hm476_1] at k_
        exact (XS.icmpNo A415.here hx rfl (hb hby at_476) rfl (tlt hm476_1).2.2.2 (XS.iconst A415.here hx rfl (hb hby at_479) (XS.goto A415.here hx rfl (pc0 := 480) (pc' := 484) rfl (hb hby at_480) (by decide) (by decide) k_)))
      ·
        simp only [if_neg hm470_0, if_neg hm476_1] at k_
        exact (XS.icmpYes A415.here hx rfl (pc0 := 476) (pc' := 483) rfl (hb hby at_476) rfl (flt hm476_1).2.2.2 (by decide) (by decide) (XS.iconst A415.here hx rfl (hb hby at_483) k_))
  refine own_go mg429 ?_
  show own_Go _ _ _ _ (T414.setTop (mkF m 484 #[.val (.int p0), .val (.int p1), .val (.long q2), .second, .val (.int p3), .val (.int (Int32.ofNat off)), .val (.int (Int32.ofNat nb)), .val (.int (if neg = true then (1 : Int32) else 0)), .val (.int (Int32.ofNat ni)), .val (.int (if pt = true then (1 : Int32) else 0)), .val (.int (Int32.ofNat nf)), .val (.int (Int32.ofNat nt)), .val (.int bg), .val (.ref b7), .val (.int (Int32.ofNat (off + ks423.length))), .val (.int (Int32.ofNat off)), .unset, .unset, .unset, .unset] [(.int (if (if pt = true then (1 : Int32) else 0) = (0 : Int32) then (0 : Int32) else (if (2 : Int32) < (Int32.ofNat nf) then (1 : Int32) else (0 : Int32)))), (.int (Int32.ofNat (off + ks423.length))), (.ref b7)]))
  refine own_go (fun t_ k_ => XS.lloadN A415.here hx rfl (hb hby at_484) rfl k_) ?_
  show own_Go _ _ _ _ (T414.setTop (mkF m 485 #[.val (.int p0), .val (.int p1), .val (.long q2), .second, .val (.int p3), .val (.int (Int32.ofNat off)), .val (.int (Int32.ofNat nb)), .val (.int (if neg = true then (1 : Int32) else 0)), .val (.int (Int32.ofNat ni)), .val (.int (if pt = true then (1 : Int32) else 0)), .val (.int (Int32.ofNat nf)), .val (.int (Int32.ofNat nt)), .val (.int bg), .val (.ref b7), .val (.int (Int32.ofNat (off + ks423.length))), .val (.int (Int32.ofNat off)), .unset, .unset, .unset, .unset] [(.long q2), (.int (if (if pt = true then (1 : Int32) else 0) = (0 : Int32) then (0 : Int32) else (if (2 : Int32) < (Int32.ofNat nf) then (1 : Int32) else (0 : Int32)))), (.int (Int32.ofNat (off + ks423.length))), (.ref b7)]))
  refine own_go (fun t_ k_ => XS.bipush A415.here hx rfl (hb hby at_485) k_) ?_
  show own_Go _ _ _ _ (T414.setTop (mkF m 487 #[.val (.int p0), .val (.int p1), .val (.long q2), .second, .val (.int p3), .val (.int (Int32.ofNat off)), .val (.int (Int32.ofNat nb)), .val (.int (if neg = true then (1 : Int32) else 0)), .val (.int (Int32.ofNat ni)), .val (.int (if pt = true then (1 : Int32) else 0)), .val (.int (Int32.ofNat nf)), .val (.int (Int32.ofNat nt)), .val (.int bg), .val (.ref b7), .val (.int (Int32.ofNat (off + ks423.length))), .val (.int (Int32.ofNat off)), .unset, .unset, .unset, .unset] [(.int (6 : Int32)), (.long q2), (.int (if (if pt = true then (1 : Int32) else 0) = (0 : Int32) then (0 : Int32) else (if (2 : Int32) < (Int32.ofNat nf) then (1 : Int32) else (0 : Int32)))), (.int (Int32.ofNat (off + ks423.length))), (.ref b7)]))
  refine own_callS A415 hx hZ hown (y := (⟨"com/example/indexloom/indexloom/data/DataLineScalePinLaw", "digit", "(JI)B"⟩ : MethodName)) (hw _ (List.mem_of_getElem? (i := 8) rfl)) (hw _ (List.mem_of_getElem? (i := 9) rfl)) (hw _ (List.mem_of_getElem? (i := 3) rfl)) (hw _ (List.mem_of_getElem? (i := 10) rfl)) (by decide) (argsL := [(.long q2), (.int (6 : Int32))]) (rest := [(.int (if (if pt = true then (1 : Int32) else 0) = (0 : Int32) then (0 : Int32) else (if (2 : Int32) < (Int32.ofNat nf) then (1 : Int32) else (0 : Int32)))), (.int (Int32.ofNat (off + ks423.length))), (.ref b7)]) (rm3 l Z a0 hw q2 (6 : Int32) h416 n0 ) 3 (by decide) (by decide) rfl (by rw [hml]; rfl) (lenOf pd__JI_B rfl) rfl (by show 2 * 0 + _ ≤ _; exact Nat.le_of_eq rfl) (hb hby at_487) (by decide) (by decide) (fun v433 T430 h432 A431 hQ434 => ?_)
  obtain ⟨rfl, rfl⟩ := hQ434
  show own_Go _ _ _ _ (T430.setTop (mkF m 490 #[.val (.int p0), .val (.int p1), .val (.long q2), .second, .val (.int p3), .val (.int (Int32.ofNat off)), .val (.int (Int32.ofNat nb)), .val (.int (if neg = true then (1 : Int32) else 0)), .val (.int (Int32.ofNat ni)), .val (.int (if pt = true then (1 : Int32) else 0)), .val (.int (Int32.ofNat nf)), .val (.int (Int32.ofNat nt)), .val (.int bg), .val (.ref b7), .val (.int (Int32.ofNat (off + ks423.length))), .val (.int (Int32.ofNat off)), .unset, .unset, .unset, .unset] [(.int (f3 q2 (6 : Int32))), (.int (if (if pt = true then (1 : Int32) else 0) = (0 : Int32) then (0 : Int32) else (if (2 : Int32) < (Int32.ofNat nf) then (1 : Int32) else (0 : Int32)))), (.int (Int32.ofNat (off + ks423.length))), (.ref b7)]))
  refine own_callS A431 hx hZ hown (y := (⟨"com/example/indexloom/indexloom/data/DataLineScalePinLaw", "put", "([BIZB)I"⟩ : MethodName)) (hw _ (List.mem_of_getElem? (i := 5) rfl)) (hw _ (List.mem_of_getElem? (i := 6) rfl)) (hw _ (List.mem_of_getElem? (i := 3) rfl)) (hw _ (List.mem_of_getElem? (i := 7) rfl)) (by decide) (argsL := [(.ref b7), (.int (Int32.ofNat (off + ks423.length))), (.int (if (if pt = true then (1 : Int32) else 0) = (0 : Int32) then (0 : Int32) else (if (2 : Int32) < (Int32.ofNat nf) then (1 : Int32) else (0 : Int32)))), (.int (f3 q2 (6 : Int32)))]) (rest := []) (rm2 l Z a0 hw b7 (if (if pt = true then (1 : Int32) else 0) = (0 : Int32) then (0 : Int32) else (if (2 : Int32) < (Int32.ofNat nf) then (1 : Int32) else (0 : Int32))) (f3 q2 (6 : Int32)) off ks423 fb420 (pt && (decide (2 < nf))) 1 h416 n0 V421 g_b7 (by omega) I422 (own_gt2 pt nf 2 (by omega) (by decide)) (own_kdig _ _) (by decide)) 0 (by decide) (by decide) rfl (by rw [hml]; rfl) (lenOf pd___BIZB_I rfl) rfl (by show 2 * 0 + _ ≤ _; exact Nat.le_of_eq rfl) (hb hby at_490) (by decide) (by decide) (fun v438 T435 h437 A436 hQ439 => ?_)
  obtain ⟨K440, fb441, rfl, V442, I443⟩ := hQ439
  have hl446 := Nat.le_trans (own_app_len ks423 (pt && (decide (2 < nf))) 1) (Nat.succ_le_succ hl425)
  generalize ek445 : own_app ks423 (pt && (decide (2 < nf))) 1 = ks444 at I443 hl446
  have Y447 : 0 ≤ h437.size := Nat.le_trans Y426 K440.1
  have O448 : Old Z n0 h437 := O427.keep K440 (allS g_b7 all0)
  have Z449 : n0 ≤ h437.size := Nat.le_trans Z428 K440.1
  show own_Go _ _ _ _ (T435.setTop (mkF m 493 #[.val (.int p0), .val (.int p1), .val (.long q2), .second, .val (.int p3), .val (.int (Int32.ofNat off)), .val (.int (Int32.ofNat nb)), .val (.int (if neg = true then (1 : Int32) else 0)), .val (.int (Int32.ofNat ni)), .val (.int (if pt = true then (1 : Int32) else 0)), .val (.int (Int32.ofNat nf)), .val (.int (Int32.ofNat nt)), .val (.int bg), .val (.ref b7), .val (.int (Int32.ofNat (off + ks423.length))), .val (.int (Int32.ofNat off)), .unset, .unset, .unset, .unset] [(.int (Int32.ofNat (off + ks444.length)))]))
  refine own_go (fun t_ k_ => XS.istore A436.here hx rfl (hb hby at_493) rfl (l' := #[.val (.int p0), .val (.int p1), .val (.long q2), .second, .val (.int p3), .val (.int (Int32.ofNat off)), .val (.int (Int32.ofNat nb)), .val (.int (if neg = true then (1 : Int32) else 0)), .val (.int (Int32.ofNat ni)), .val (.int (if pt = true then (1 : Int32) else 0)), .val (.int (Int32.ofNat nf)), .val (.int (Int32.ofNat nt)), .val (.int bg), .val (.ref b7), .val (.int (Int32.ofNat (off + ks444.length))), .val (.int (Int32.ofNat off)), .unset, .unset, .unset, .unset]) rfl k_) ?_
  show own_Go _ _ _ _ (T435.setTop (mkF m 495 #[.val (.int p0), .val (.int p1), .val (.long q2), .second, .val (.int p3), .val (.int (Int32.ofNat off)), .val (.int (Int32.ofNat nb)), .val (.int (if neg = true then (1 : Int32) else 0)), .val (.int (Int32.ofNat ni)), .val (.int (if pt = true then (1 : Int32) else 0)), .val (.int (Int32.ofNat nf)), .val (.int (Int32.ofNat nt)), .val (.int bg), .val (.ref b7), .val (.int (Int32.ofNat (off + ks444.length))), .val (.int (Int32.ofNat off)), .unset, .unset, .unset, .unset] []))
  refine own_go (fun t_ k_ => XS.aload A436.here hx rfl (hb hby at_495) rfl rfl k_) ?_
  show own_Go _ _ _ _ (T435.setTop (mkF m 497 #[.val (.int p0), .val (.int p1), .val (.long q2), .second, .val (.int p3), .val (.int (Int32.ofNat off)), .val (.int (Int32.ofNat nb)), .val (.int (if neg = true then (1 : Int32) else 0)), .val (.int (Int32.ofNat ni)), .val (.int (if pt = true then (1 : Int32) else 0)), .val (.int (Int32.ofNat nf)), .val (.int (Int32.ofNat nt)), .val (.int bg), .val (.ref b7), .val (.int (Int32.ofNat (off + ks444.length))), .val (.int (Int32.ofNat off)), .unset, .unset, .unset, .unset] [(.ref b7)]))
  refine own_go (fun t_ k_ => XS.iload A436.here hx rfl (hb hby at_497) rfl k_) ?_
  show own_Go _ _ _ _ (T435.setTop (mkF m 499 #[.val (.int p0), .val (.int p1), .val (.long q2), .second, .val (.int p3), .val (.int (Int32.ofNat off)), .val (.int (Int32.ofNat nb)), .val (.int (if neg = true then (1 : Int32) else 0)), .val (.int (Int32.ofNat ni)), .val (.int (if pt = true then (1 : Int32) else 0)), .val (.int (Int32.ofNat nf)), .val (.int (Int32.ofNat nt)), .val (.int bg), .val (.ref b7), .val (.int (Int32.ofNat (off + ks444.length))), .val (.int (Int32.ofNat off)), .unset, .unset, .unset, .unset] [(.int (Int32.ofNat (off + ks444.length))), (.ref b7)]))
  refine own_go (fun t_ k_ => XS.iload A436.here hx rfl (hb hby at_499) rfl k_) ?_
  show own_Go _ _ _ _ (T435.setTop (mkF m 501 #[.val (.int p0), .val (.int p1), .val (.long q2), .second, .val (.int p3), .val (.int (Int32.ofNat off)), .val (.int (Int32.ofNat nb)), .val (.int (if neg = true then (1 : Int32) else 0)), .val (.int (Int32.ofNat ni)), .val (.int (if pt = true then (1 : Int32) else 0)), .val (.int (Int32.ofNat nf)), .val (.int (Int32.ofNat nt)), .val (.int bg), .val (.ref b7), .val (.int (Int32.ofNat (off + ks444.length))), .val (.int (Int32.ofNat off)), .unset, .unset, .unset, .unset] [(.int (if pt = true then (1 : Int32) else 0)), (.int (Int32.ofNat (off + ks444.length))), (.ref b7)]))
  have mg450 : ∀ t_, Steps p.tables e below (T435.setTop (mkF m 515 #[.val (.int p0), .val (.int p1), .val (.long q2), .second, .val (.int p3), .val (.int (Int32.ofNat off)), .val (.int (Int32.ofNat nb)), .val (.int (if neg = true then (1 : Int32) else 0)), .val (.int (Int32.ofNat ni)), .val (.int (if pt = true then (1 : Int32) else 0)), .val (.int (Int32.ofNat nf)), .val (.int (Int32.ofNat nt)), .val (.int bg), .val (.ref b7), .val (.int (Int32.ofNat (off + ks444.length))), .val (.int (Int32.ofNat off)), .unset, .unset, .unset, .unset] [(.int (if (if pt = true then (1 : Int32) else 0) = (0 : Int32) then (0 : Int32) else (if (3 : Int32) < (Int32.ofNat nf) then (1 : Int32) else (0 : Int32)))), (.int (Int32.ofNat (off + ks444.length))), (.ref b7)])) t_ → Steps p.tables e below (T435.setTop (mkF m 501 #[.val (.int p0), .val (.int p1), .val (.long q2), .second, .val (.int p3), .val (.int (Int32.ofNat off)), .val (.int (Int32.ofNat nb)), .val (.int (if neg = true then (1 : Int32) else 0)), .val (.int (Int32.ofNat ni)), .val (.int (if pt = true then (1 : Int32) else 0)), .val (.int (Int32.ofNat nf)), .val (.int (Int32.ofNat nt)), .val (.int bg), .val (.ref b7), .val (.int (Int32.ofNat (off + ks444.length))), .val (.int (Int32.ofNat off)), .unset, .unset, .unset, .unset] [(.int (if pt = true then (1 : Int32) else 0)), (.int (Int32.ofNat (off + ks444.length))), (.ref b7)])) t_ := by
    intro t_ k_
    by_cases hm501_0 : (if pt = true then (1 : Int32) else 0) = (0 : Int32)
    ·
      simp only [if_pos hm501_0] at k_
      exact (XS.ifYes A436.here hx rfl (pc0 := 501) (pc' := 514) rfl (hb hby at_501) rfl ((if0 _ _).trans (teq hm501_0).1) (by decide) (by decide) (XS.iconst A436.here hx rfl (hb hby at_514) k_))
    ·
      refine XS.ifNo A436.here hx rfl (hb hby at_501) rfl ((if0 _ _).trans (feq hm501_0).1) (XS.iload A436.here hx rfl (hb hby at_504) rfl (XS.iconst A436.here hx rfl (hb hby at_506) ?_))
      by_cases hm507_1 : (3 : Int32) < (Int32.ofNat nf)
      ·
        simp only [if_neg hm501_0, if_pos hm507_1] at k_
        exact (XS.icmpNo A436.here hx rfl (hb hby at_507) rfl (tlt hm507_1).2.2.2 (XS.iconst A436.here hx rfl (hb hby at_510) (XS.goto A436.here hx rfl (pc0 := 511) (pc' := 515) rfl (hb hby at_511) (by decide) (by decide) k_)))
      ·
        simp only [if_neg hm501_0, if_neg hm507_1] at k_
        exact (XS.icmpYes A436.here hx rfl (pc0 := 507) (pc' := 514) rfl (hb hby at_507) rfl (flt hm507_1).2.2.2 (by decide) (by decide) (XS.iconst A436.here hx rfl (hb hby at_514) k_))
  refine own_go mg450 ?_
  show own_Go _ _ _ _ (T435.setTop (mkF m 515 #[.val (.int p0), .val (.int p1), .val (.long q2), .second, .val (.int p3), .val (.int (Int32.ofNat off)), .val (.int (Int32.ofNat nb)), .val (.int (if neg = true then (1 : Int32) else 0)), .val (.int (Int32.ofNat ni)), .val (.int (if pt = true then (1 : Int32) else 0)), .val (.int (Int32.ofNat nf)), .val (.int (Int32.ofNat nt)), .val (.int bg), .val (.ref b7), .val (.int (Int32.ofNat (off + ks444.length))), .val (.int (Int32.ofNat off)), .unset, .unset, .unset, .unset] [(.int (if (if pt = true then (1 : Int32) else 0) = (0 : Int32) then (0 : Int32) else (if (3 : Int32) < (Int32.ofNat nf) then (1 : Int32) else (0 : Int32)))), (.int (Int32.ofNat (off + ks444.length))), (.ref b7)]))
  refine own_go (fun t_ k_ => XS.lloadN A436.here hx rfl (hb hby at_515) rfl k_) ?_
  show own_Go _ _ _ _ (T435.setTop (mkF m 516 #[.val (.int p0), .val (.int p1), .val (.long q2), .second, .val (.int p3), .val (.int (Int32.ofNat off)), .val (.int (Int32.ofNat nb)), .val (.int (if neg = true then (1 : Int32) else 0)), .val (.int (Int32.ofNat ni)), .val (.int (if pt = true then (1 : Int32) else 0)), .val (.int (Int32.ofNat nf)), .val (.int (Int32.ofNat nt)), .val (.int bg), .val (.ref b7), .val (.int (Int32.ofNat (off + ks444.length))), .val (.int (Int32.ofNat off)), .unset, .unset, .unset, .unset] [(.long q2), (.int (if (if pt = true then (1 : Int32) else 0) = (0 : Int32) then (0 : Int32) else (if (3 : Int32) < (Int32.ofNat nf) then (1 : Int32) else (0 : Int32)))), (.int (Int32.ofNat (off + ks444.length))), (.ref b7)]))
  refine own_go (fun t_ k_ => XS.bipush A436.here hx rfl (hb hby at_516) k_) ?_
  show own_Go _ _ _ _ (T435.setTop (mkF m 518 #[.val (.int p0), .val (.int p1), .val (.long q2), .second, .val (.int p3), .val (.int (Int32.ofNat off)), .val (.int (Int32.ofNat nb)), .val (.int (if neg = true then (1 : Int32) else 0)), .val (.int (Int32.ofNat ni)), .val (.int (if pt = true then (1 : Int32) else 0)), .val (.int (Int32.ofNat nf)), .val (.int (Int32.ofNat nt)), .val (.int bg), .val (.ref b7), .val (.int (Int32.ofNat (off + ks444.length))), .val (.int (Int32.ofNat off)), .unset, .unset, .unset, .unset] [(.int (7 : Int32)), (.long q2), (.int (if (if pt = true then (1 : Int32) else 0) = (0 : Int32) then (0 : Int32) else (if (3 : Int32) < (Int32.ofNat nf) then (1 : Int32) else (0 : Int32)))), (.int (Int32.ofNat (off + ks444.length))), (.ref b7)]))
  refine own_callS A436 hx hZ hown (y := (⟨"com/example/indexloom/indexloom/data/DataLineScalePinLaw", "digit", "(JI)B"⟩ : MethodName)) (hw _ (List.mem_of_getElem? (i := 8) rfl)) (hw _ (List.mem_of_getElem? (i := 9) rfl)) (hw _ (List.mem_of_getElem? (i := 3) rfl)) (hw _ (List.mem_of_getElem? (i := 10) rfl)) (by decide) (argsL := [(.long q2), (.int (7 : Int32))]) (rest := [(.int (if (if pt = true then (1 : Int32) else 0) = (0 : Int32) then (0 : Int32) else (if (3 : Int32) < (Int32.ofNat nf) then (1 : Int32) else (0 : Int32)))), (.int (Int32.ofNat (off + ks444.length))), (.ref b7)]) (rm3 l Z a0 hw q2 (7 : Int32) h437 n0 ) 3 (by decide) (by decide) rfl (by rw [hml]; rfl) (lenOf pd__JI_B rfl) rfl (by show 2 * 0 + _ ≤ _; exact Nat.le_of_eq rfl) (hb hby at_518) (by decide) (by decide) (fun v454 T451 h453 A452 hQ455 => ?_)
  obtain ⟨rfl, rfl⟩ := hQ455
  show own_Go _ _ _ _ (T451.setTop (mkF m 521 #[.val (.int p0), .val (.int p1), .val (.long q2), .second, .val (.int p3), .val (.int (Int32.ofNat off)), .val (.int (Int32.ofNat nb)), .val (.int (if neg = true then (1 : Int32) else 0)), .val (.int (Int32.ofNat ni)), .val (.int (if pt = true then (1 : Int32) else 0)), .val (.int (Int32.ofNat nf)), .val (.int (Int32.ofNat nt)), .val (.int bg), .val (.ref b7), .val (.int (Int32.ofNat (off + ks444.length))), .val (.int (Int32.ofNat off)), .unset, .unset, .unset, .unset] [(.int (f3 q2 (7 : Int32))), (.int (if (if pt = true then (1 : Int32) else 0) = (0 : Int32) then (0 : Int32) else (if (3 : Int32) < (Int32.ofNat nf) then (1 : Int32) else (0 : Int32)))), (.int (Int32.ofNat (off + ks444.length))), (.ref b7)]))
  refine own_callS A452 hx hZ hown (y := (⟨"com/example/indexloom/indexloom/data/DataLineScalePinLaw", "put", "([BIZB)I"⟩ : MethodName)) (hw _ (List.mem_of_getElem? (i := 5) rfl)) (hw _ (List.mem_of_getElem? (i := 6) rfl)) (hw _ (List.mem_of_getElem? (i := 3) rfl)) (hw _ (List.mem_of_getElem? (i := 7) rfl)) (by decide) (argsL := [(.ref b7), (.int (Int32.ofNat (off + ks444.length))), (.int (if (if pt = true then (1 : Int32) else 0) = (0 : Int32) then (0 : Int32) else (if (3 : Int32) < (Int32.ofNat nf) then (1 : Int32) else (0 : Int32)))), (.int (f3 q2 (7 : Int32)))]) (rest := []) (rm2 l Z a0 hw b7 (if (if pt = true then (1 : Int32) else 0) = (0 : Int32) then (0 : Int32) else (if (3 : Int32) < (Int32.ofNat nf) then (1 : Int32) else (0 : Int32))) (f3 q2 (7 : Int32)) off ks444 fb441 (pt && (decide (3 < nf))) 1 h437 n0 V442 g_b7 (by omega) I443 (own_gt2 pt nf 3 (by omega) (by decide)) (own_kdig _ _) (by decide)) 0 (by decide) (by decide) rfl (by rw [hml]; rfl) (lenOf pd___BIZB_I rfl) rfl (by show 2 * 0 + _ ≤ _; exact Nat.le_of_eq rfl) (hb hby at_521) (by decide) (by decide) (fun v459 T456 h458 A457 hQ460 => ?_)
  obtain ⟨K461, fb462, rfl, V463, I464⟩ := hQ460
  have hl467 := Nat.le_trans (own_app_len ks444 (pt && (decide (3 < nf))) 1) (Nat.succ_le_succ hl446)
  generalize ek466 : own_app ks444 (pt && (decide (3 < nf))) 1 = ks465 at I464 hl467
  have Y468 : 0 ≤ h458.size := Nat.le_trans Y447 K461.1
  have O469 : Old Z n0 h458 := O448.keep K461 (allS g_b7 all0)
  have Z470 : n0 ≤ h458.size := Nat.le_trans Z449 K461.1
  show own_Go _ _ _ _ (T456.setTop (mkF m 524 #[.val (.int p0), .val (.int p1), .val (.long q2), .second, .val (.int p3), .val (.int (Int32.ofNat off)), .val (.int (Int32.ofNat nb)), .val (.int (if neg = true then (1 : Int32) else 0)), .val (.int (Int32.ofNat ni)), .val (.int (if pt = true then (1 : Int32) else 0)), .val (.int (Int32.ofNat nf)), .val (.int (Int32.ofNat nt)), .val (.int bg), .val (.ref b7), .val (.int (Int32.ofNat (off + ks444.length))), .val (.int (Int32.ofNat off)), .unset, .unset, .unset, .unset] [(.int (Int32.ofNat (off + ks465.length)))]))
  refine own_go (fun t_ k_ => XS.istore A457.here hx rfl (hb hby at_524) rfl (l' := #[.val (.int p0), .val (.int p1), .val (.long q2), .second, .val (.int p3), .val (.int (Int32.ofNat off)), .val (.int (Int32.ofNat nb)), .val (.int (if neg = true then (1 : Int32) else 0)), .val (.int (Int32.ofNat ni)), .val (.int (if pt = true then (1 : Int32) else 0)), .val (.int (Int32.ofNat nf)), .val (.int (Int32.ofNat nt)), .val (.int bg), .val (.ref b7), .val (.int (Int32.ofNat (off + ks465.length))), .val (.int (Int32.ofNat off)), .unset, .unset, .unset, .unset]) rfl k_) ?_
  show own_Go _ _ _ _ (T456.setTop (mkF m 526 #[.val (.int p0), .val (.int p1), .val (.long q2), .second, .val (.int p3), .val (.int (Int32.ofNat off)), .val (.int (Int32.ofNat nb)), .val (.int (if neg = true then (1 : Int32) else 0)), .val (.int (Int32.ofNat ni)), .val (.int (if pt = true then (1 : Int32) else 0)), .val (.int (Int32.ofNat nf)), .val (.int (Int32.ofNat nt)), .val (.int bg), .val (.ref b7), .val (.int (Int32.ofNat (off + ks465.length))), .val (.int (Int32.ofNat off)), .unset, .unset, .unset, .unset] []))
  refine own_go (fun t_ k_ => XS.aload A457.here hx rfl (hb hby at_526) rfl rfl k_) ?_
  show own_Go _ _ _ _ (T456.setTop (mkF m 528 #[.val (.int p0), .val (.int p1), .val (.long q2), .second, .val (.int p3), .val (.int (Int32.ofNat off)), .val (.int (Int32.ofNat nb)), .val (.int (if neg = true then (1 : Int32) else 0)), .val (.int (Int32.ofNat ni)), .val (.int (if pt = true then (1 : Int32) else 0)), .val (.int (Int32.ofNat nf)), .val (.int (Int32.ofNat nt)), .val (.int bg), .val (.ref b7), .val (.int (Int32.ofNat (off + ks465.length))), .val (.int (Int32.ofNat off)), .unset, .unset, .unset, .unset] [(.ref b7)]))
  refine own_go (fun t_ k_ => XS.iload A457.here hx rfl (hb hby at_528) rfl k_) ?_
  show own_Go _ _ _ _ (T456.setTop (mkF m 530 #[.val (.int p0), .val (.int p1), .val (.long q2), .second, .val (.int p3), .val (.int (Int32.ofNat off)), .val (.int (Int32.ofNat nb)), .val (.int (if neg = true then (1 : Int32) else 0)), .val (.int (Int32.ofNat ni)), .val (.int (if pt = true then (1 : Int32) else 0)), .val (.int (Int32.ofNat nf)), .val (.int (Int32.ofNat nt)), .val (.int bg), .val (.ref b7), .val (.int (Int32.ofNat (off + ks465.length))), .val (.int (Int32.ofNat off)), .unset, .unset, .unset, .unset] [(.int (Int32.ofNat (off + ks465.length))), (.ref b7)]))
  refine own_go (fun t_ k_ => XS.iload A457.here hx rfl (hb hby at_530) rfl k_) ?_
  show own_Go _ _ _ _ (T456.setTop (mkF m 532 #[.val (.int p0), .val (.int p1), .val (.long q2), .second, .val (.int p3), .val (.int (Int32.ofNat off)), .val (.int (Int32.ofNat nb)), .val (.int (if neg = true then (1 : Int32) else 0)), .val (.int (Int32.ofNat ni)), .val (.int (if pt = true then (1 : Int32) else 0)), .val (.int (Int32.ofNat nf)), .val (.int (Int32.ofNat nt)), .val (.int bg), .val (.ref b7), .val (.int (Int32.ofNat (off + ks465.length))), .val (.int (Int32.ofNat off)), .unset, .unset, .unset, .unset] [(.int (Int32.ofNat nt)), (.int (Int32.ofNat (off + ks465.length))), (.ref b7)]))
  have mg471 : ∀ t_, Steps p.tables e below (T456.setTop (mkF m 540 #[.val (.int p0), .val (.int p1), .val (.long q2), .second, .val (.int p3), .val (.int (Int32.ofNat off)), .val (.int (Int32.ofNat nb)), .val (.int (if neg = true then (1 : Int32) else 0)), .val (.int (Int32.ofNat ni)), .val (.int (if pt = true then (1 : Int32) else 0)), .val (.int (Int32.ofNat nf)), .val (.int (Int32.ofNat nt)), .val (.int bg), .val (.ref b7), .val (.int (Int32.ofNat (off + ks465.length))), .val (.int (Int32.ofNat off)), .unset, .unset, .unset, .unset] [(.int (if (0 : Int32) < (Int32.ofNat nt) then (1 : Int32) else (0 : Int32))), (.int (Int32.ofNat (off + ks465.length))), (.ref b7)])) t_ → Steps p.tables e below (T456.setTop (mkF m 532 #[.val (.int p0), .val (.int p1), .val (.long q2), .second, .val (.int p3), .val (.int (Int32.ofNat off)), .val (.int (Int32.ofNat nb)), .val (.int (if neg = true then (1 : Int32) else 0)), .val (.int (Int32.ofNat ni)), .val (.int (if pt = true then (1 : Int32) else 0)), .val (.int (Int32.ofNat nf)), .val (.int (Int32.ofNat nt)), .val (.int bg), .val (.ref b7), .val (.int (Int32.ofNat (off + ks465.length))), .val (.int (Int32.ofNat off)), .unset, .unset, .unset, .unset] [(.int (Int32.ofNat nt)), (.int (Int32.ofNat (off + ks465.length))), (.ref b7)])) t_ := by
    intro t_ k_
    by_cases hm532_0 : (0 : Int32) < (Int32.ofNat nt)
    ·
      simp only [if_pos hm532_0] at k_
      exact (XS.ifNo A457.here hx rfl (hb hby at_532) rfl ((if0 _ _).trans (tlt hm532_0).2.2.2) (XS.iconst A457.here hx rfl (hb hby at_535) (XS.goto A457.here hx rfl (pc0 := 536) (pc' := 540) rfl (hb hby at_536) (by decide) (by decide) k_)))
    ·
      simp only [if_neg hm532_0] at k_
      exact (XS.ifYes A457.here hx rfl (pc0 := 532) (pc' := 539) rfl (hb hby at_532) rfl ((if0 _ _).trans (flt hm532_0).2.2.2) (by decide) (by decide) (XS.iconst A457.here hx rfl (hb hby at_539) k_))
  refine own_go mg471 ?_
  show own_Go _ _ _ _ (T456.setTop (mkF m 540 #[.val (.int p0), .val (.int p1), .val (.long q2), .second, .val (.int p3), .val (.int (Int32.ofNat off)), .val (.int (Int32.ofNat nb)), .val (.int (if neg = true then (1 : Int32) else 0)), .val (.int (Int32.ofNat ni)), .val (.int (if pt = true then (1 : Int32) else 0)), .val (.int (Int32.ofNat nf)), .val (.int (Int32.ofNat nt)), .val (.int bg), .val (.ref b7), .val (.int (Int32.ofNat (off + ks465.length))), .val (.int (Int32.ofNat off)), .unset, .unset, .unset, .unset] [(.int (if (0 : Int32) < (Int32.ofNat nt) then (1 : Int32) else (0 : Int32))), (.int (Int32.ofNat (off + ks465.length))), (.ref b7)]))
  refine own_go (fun t_ k_ => XS.iloadN A457.here hx rfl (hb hby at_540) rfl k_) ?_
  show own_Go _ _ _ _ (T456.setTop (mkF m 541 #[.val (.int p0), .val (.int p1), .val (.long q2), .second, .val (.int p3), .val (.int (Int32.ofNat off)), .val (.int (Int32.ofNat nb)), .val (.int (if neg = true then (1 : Int32) else 0)), .val (.int (Int32.ofNat ni)), .val (.int (if pt = true then (1 : Int32) else 0)), .val (.int (Int32.ofNat nf)), .val (.int (Int32.ofNat nt)), .val (.int bg), .val (.ref b7), .val (.int (Int32.ofNat (off + ks465.length))), .val (.int (Int32.ofNat off)), .unset, .unset, .unset, .unset] [(.int p1), (.int (if (0 : Int32) < (Int32.ofNat nt) then (1 : Int32) else (0 : Int32))), (.int (Int32.ofNat (off + ks465.length))), (.ref b7)]))
  refine own_go (fun t_ k_ => XS.iconst A457.here hx rfl (hb hby at_541) k_) ?_
  show own_Go _ _ _ _ (T456.setTop (mkF m 542 #[.val (.int p0), .val (.int p1), .val (.long q2), .second, .val (.int p3), .val (.int (Int32.ofNat off)), .val (.int (Int32.ofNat nb)), .val (.int (if neg = true then (1 : Int32) else 0)), .val (.int (Int32.ofNat ni)), .val (.int (if pt = true then (1 : Int32) else 0)), .val (.int (Int32.ofNat nf)), .val (.int (Int32.ofNat nt)), .val (.int bg), .val (.ref b7), .val (.int (Int32.ofNat (off + ks465.length))), .val (.int (Int32.ofNat off)), .unset, .unset, .unset, .unset] [(.int (3 : Int32)), (.int p1), (.int (if (0 : Int32) < (Int32.ofNat nt) then (1 : Int32) else (0 : Int32))), (.int (Int32.ofNat (off + ks465.length))), (.ref b7)]))
  refine own_callS A457 hx hZ hown (y := (⟨"com/example/indexloom/indexloom/data/DataLineScalePinLaw", "blank", "(II)B"⟩ : MethodName)) (hw _ (List.mem_of_getElem? (i := 1) rfl)) (hw _ (List.mem_of_getElem? (i := 2) rfl)) (hw _ (List.mem_of_getElem? (i := 3) rfl)) (hw _ (List.mem_of_getElem? (i := 4) rfl)) (by decide) (argsL := [(.int p1), (.int (3 : Int32))]) (rest := [(.int (if (0 : Int32) < (Int32.ofNat nt) then (1 : Int32) else (0 : Int32))), (.int (Int32.ofNat (off + ks465.length))), (.ref b7)]) (rm1 l Z a0 hw p1 (3 : Int32) h458 n0 ) 3 (by decide) (by decide) rfl (by rw [hml]; rfl) (lenOf pd__II_B rfl) rfl (by show 2 * 0 + _ ≤ _; exact Nat.le_of_eq rfl) (hb hby at_542) (by decide) (by decide) (fun v475 T472 h474 A473 hQ476 => ?_)
  obtain ⟨rfl, rfl⟩ := hQ476
  show own_Go _ _ _ _ (T472.setTop (mkF m 545 #[.val (.int p0), .val (.int p1), .val (.long q2), .second, .val (.int p3), .val (.int (Int32.ofNat off)), .val (.int (Int32.ofNat nb)), .val (.int (if neg = true then (1 : Int32) else 0)), .val (.int (Int32.ofNat ni)), .val (.int (if pt = true then (1 : Int32) else 0)), .val (.int (Int32.ofNat nf)), .val (.int (Int32.ofNat nt)), .val (.int bg), .val (.ref b7), .val (.int (Int32.ofNat (off + ks465.length))), .val (.int (Int32.ofNat off)), .unset, .unset, .unset, .unset] [(.int (f1 p1 (3 : Int32))), (.int (if (0 : Int32) < (Int32.ofNat nt) then (1 : Int32) else (0 : Int32))), (.int (Int32.ofNat (off + ks465.length))), (.ref b7)]))
  refine own_callS A473 hx hZ hown (y := (⟨"com/example/indexloom/indexloom/data/DataLineScalePinLaw", "put", "([BIZB)I"⟩ : MethodName)) (hw _ (List.mem_of_getElem? (i := 5) rfl)) (hw _ (List.mem_of_getElem? (i := 6) rfl)) (hw _ (List.mem_of_getElem? (i := 3) rfl)) (hw _ (List.mem_of_getElem? (i := 7) rfl)) (by decide) (argsL := [(.ref b7), (.int (Int32.ofNat (off + ks465.length))), (.int (if (0 : Int32) < (Int32.ofNat nt) then (1 : Int32) else (0 : Int32))), (.int (f1 p1 (3 : Int32)))]) (rest := []) (rm2 l Z a0 hw b7 (if (0 : Int32) < (Int32.ofNat nt) then (1 : Int32) else (0 : Int32)) (f1 p1 (3 : Int32)) off ks465 fb462 (decide (0 < nt)) 0 h458 n0 V463 g_b7 (by omega) I464 (own_gt nt 0 (by omega) (by decide)) (own_kblank _ _) (by decide)) 0 (by decide) (by decide) rfl (by rw [hml]; rfl) (lenOf pd___BIZB_I rfl) rfl (by show 2 * 0 + _ ≤ _; exact Nat.le_of_eq rfl) (hb hby at_545) (by decide) (by decide) (fun v480 T477 h479 A478 hQ481 => ?_)
  obtain ⟨K482, fb483, rfl, V484, I485⟩ := hQ481
  have hl488 := Nat.le_trans (own_app_len ks465 (decide (0 < nt)) 0) (Nat.succ_le_succ hl467)
  generalize ek487 : own_app ks465 (decide (0 < nt)) 0 = ks486 at I485 hl488
  have Y489 : 0 ≤ h479.size := Nat.le_trans Y468 K482.1
  have O490 : Old Z n0 h479 := O469.keep K482 (allS g_b7 all0)
  have Z491 : n0 ≤ h479.size := Nat.le_trans Z470 K482.1
  show own_Go _ _ _ _ (T477.setTop (mkF m 548 #[.val (.int p0), .val (.int p1), .val (.long q2), .second, .val (.int p3), .val (.int (Int32.ofNat off)), .val (.int (Int32.ofNat nb)), .val (.int (if neg = true then (1 : Int32) else 0)), .val (.int (Int32.ofNat ni)), .val (.int (if pt = true then (1 : Int32) else 0)), .val (.int (Int32.ofNat nf)), .val (.int (Int32.ofNat nt)), .val (.int bg), .val (.ref b7), .val (.int (Int32.ofNat (off + ks465.length))), .val (.int (Int32.ofNat off)), .unset, .unset, .unset, .unset] [(.int (Int32.ofNat (off + ks486.length)))]))
  refine own_go (fun t_ k_ => XS.istore A478.here hx rfl (hb hby at_548) rfl (l' := #[.val (.int p0), .val (.int p1), .val (.long q2), .second, .val (.int p3), .val (.int (Int32.ofNat off)), .val (.int (Int32.ofNat nb)), .val (.int (if neg = true then (1 : Int32) else 0)), .val (.int (Int32.ofNat ni)), .val (.int (if pt = true then (1 : Int32) else 0)), .val (.int (Int32.ofNat nf)), .val (.int (Int32.ofNat nt)), .val (.int bg), .val (.ref b7), .val (.int (Int32.ofNat (off + ks486.length))), .val (.int (Int32.ofNat off)), .unset, .unset, .unset, .unset]) rfl k_) ?_
  show own_Go _ _ _ _ (T477.setTop (mkF m 550 #[.val (.int p0), .val (.int p1), .val (.long q2), .second, .val (.int p3), .val (.int (Int32.ofNat off)), .val (.int (Int32.ofNat nb)), .val (.int (if neg = true then (1 : Int32) else 0)), .val (.int (Int32.ofNat ni)), .val (.int (if pt = true then (1 : Int32) else 0)), .val (.int (Int32.ofNat nf)), .val (.int (Int32.ofNat nt)), .val (.int bg), .val (.ref b7), .val (.int (Int32.ofNat (off + ks486.length))), .val (.int (Int32.ofNat off)), .unset, .unset, .unset, .unset] []))
  refine own_go (fun t_ k_ => XS.aload A478.here hx rfl (hb hby at_550) rfl rfl k_) ?_
  show own_Go _ _ _ _ (T477.setTop (mkF m 552 #[.val (.int p0), .val (.int p1), .val (.long q2), .second, .val (.int p3), .val (.int (Int32.ofNat off)), .val (.int (Int32.ofNat nb)), .val (.int (if neg = true then (1 : Int32) else 0)), .val (.int (Int32.ofNat ni)), .val (.int (if pt = true then (1 : Int32) else 0)), .val (.int (Int32.ofNat nf)), .val (.int (Int32.ofNat nt)), .val (.int bg), .val (.ref b7), .val (.int (Int32.ofNat (off + ks486.length))), .val (.int (Int32.ofNat off)), .unset, .unset, .unset, .unset] [(.ref b7)]))
  refine own_go (fun t_ k_ => XS.iload A478.here hx rfl (hb hby at_552) rfl k_) ?_
  show own_Go _ _ _ _ (T477.setTop (mkF m 554 #[.val (.int p0), .val (.int p1), .val (.long q2), .second, .val (.int p3), .val (.int (Int32.ofNat off)), .val (.int (Int32.ofNat nb)), .val (.int (if neg = true then (1 : Int32) else 0)), .val (.int (Int32.ofNat ni)), .val (.int (if pt = true then (1 : Int32) else 0)), .val (.int (Int32.ofNat nf)), .val (.int (Int32.ofNat nt)), .val (.int bg), .val (.ref b7), .val (.int (Int32.ofNat (off + ks486.length))), .val (.int (Int32.ofNat off)), .unset, .unset, .unset, .unset] [(.int (Int32.ofNat (off + ks486.length))), (.ref b7)]))
  refine own_go (fun t_ k_ => XS.iload A478.here hx rfl (hb hby at_554) rfl k_) ?_
  show own_Go _ _ _ _ (T477.setTop (mkF m 556 #[.val (.int p0), .val (.int p1), .val (.long q2), .second, .val (.int p3), .val (.int (Int32.ofNat off)), .val (.int (Int32.ofNat nb)), .val (.int (if neg = true then (1 : Int32) else 0)), .val (.int (Int32.ofNat ni)), .val (.int (if pt = true then (1 : Int32) else 0)), .val (.int (Int32.ofNat nf)), .val (.int (Int32.ofNat nt)), .val (.int bg), .val (.ref b7), .val (.int (Int32.ofNat (off + ks486.length))), .val (.int (Int32.ofNat off)), .unset, .unset, .unset, .unset] [(.int (Int32.ofNat nt)), (.int (Int32.ofNat (off + ks486.length))), (.ref b7)]))
  refine own_go (fun t_ k_ => XS.iconst A478.here hx rfl (hb hby at_556) k_) ?_
  show own_Go _ _ _ _ (T477.setTop (mkF m 557 #[.val (.int p0), .val (.int p1), .val (.long q2), .second, .val (.int p3), .val (.int (Int32.ofNat off)), .val (.int (Int32.ofNat nb)), .val (.int (if neg = true then (1 : Int32) else 0)), .val (.int (Int32.ofNat ni)), .val (.int (if pt = true then (1 : Int32) else 0)), .val (.int (Int32.ofNat nf)), .val (.int (Int32.ofNat nt)), .val (.int bg), .val (.ref b7), .val (.int (Int32.ofNat (off + ks486.length))), .val (.int (Int32.ofNat off)), .unset, .unset, .unset, .unset] [(.int (1 : Int32)), (.int (Int32.ofNat nt)), (.int (Int32.ofNat (off + ks486.length))), (.ref b7)]))
  have mg492 : ∀ t_, Steps p.tables e below (T477.setTop (mkF m 565 #[.val (.int p0), .val (.int p1), .val (.long q2), .second, .val (.int p3), .val (.int (Int32.ofNat off)), .val (.int (Int32.ofNat nb)), .val (.int (if neg = true then (1 : Int32) else 0)), .val (.int (Int32.ofNat ni)), .val (.int (if pt = true then (1 : Int32) else 0)), .val (.int (Int32.ofNat nf)), .val (.int (Int32.ofNat nt)), .val (.int bg), .val (.ref b7), .val (.int (Int32.ofNat (off + ks486.length))), .val (.int (Int32.ofNat off)), .unset, .unset, .unset, .unset] [(.int (if (1 : Int32) < (Int32.ofNat nt) then (1 : Int32) else (0 : Int32))), (.int (Int32.ofNat (off + ks486.length))), (.ref b7)])) t_ → Steps p.tables e below (T477.setTop (mkF m 557 #[.val (.int p0), .val (.int p1), .val (.long q2), .second, .val (.int p3), .val (.int (Int32.ofNat off)), .val (.int (Int32.ofNat nb)), .val (.int (if neg = true then (1 : Int32) else 0)), .val (.int (Int32.ofNat ni)), .val (.int (if pt = true then (1 : Int32) else 0)), .val (.int (Int32.ofNat nf)), .val (.int (Int32.ofNat nt)), .val (.int bg), .val (.ref b7), .val (.int (Int32.ofNat (off + ks486.length))), .val (.int (Int32.ofNat off)), .unset, .unset, .unset, .unset] [(.int (1 : Int32)), (.int (Int32.ofNat nt)), (.int (Int32.ofNat (off + ks486.length))), (.ref b7)])) t_ := by
    intro t_ k_
    by_cases hm557_0 : (1 : Int32) < (Int32.ofNat nt)
    ·
      simp only [if_pos hm557_0] at k_
      exact (XS.icmpNo A478.here hx rfl (hb hby at_557) rfl (tlt hm557_0).2.2.2 (XS.iconst A478.here hx rfl (hb hby at_560) (XS.goto A478.here hx rfl (pc0 := 561) (pc' := 565) rfl (hb hby at_561) (by decide) (by decide) k_)))
    ·
      simp only [if_neg hm557_0] at k_
      exact (XS.icmpYes A478.here hx rfl (pc0 := 557) (pc' := 564) rfl (hb hby at_557) rfl (flt hm557_0).2.2.2 (by decide) (by decide) (XS.iconst A478.here hx rfl (hb hby at_564) k_))
  refine own_go mg492 ?_
  show own_Go _ _ _ _ (T477.setTop (mkF m 565 #[.val (.int p0), .val (.int p1), .val (.long q2), .second, .val (.int p3), .val (.int (Int32.ofNat off)), .val (.int (Int32.ofNat nb)), .val (.int (if neg = true then (1 : Int32) else 0)), .val (.int (Int32.ofNat ni)), .val (.int (if pt = true then (1 : Int32) else 0)), .val (.int (Int32.ofNat nf)), .val (.int (Int32.ofNat nt)), .val (.int bg), .val (.ref b7), .val (.int (Int32.ofNat (off + ks486.length))), .val (.int (Int32.ofNat off)), .unset, .unset, .unset, .unset] [(.int (if (1 : Int32) < (Int32.ofNat nt) then (1 : Int32) else (0 : Int32))), (.int (Int32.ofNat (off + ks486.length))), (.ref b7)]))
  refine own_go (fun t_ k_ => XS.iloadN A478.here hx rfl (hb hby at_565) rfl k_) ?_
  show own_Go _ _ _ _ (T477.setTop (mkF m 566 #[.val (.int p0), .val (.int p1), .val (.long q2), .second, .val (.int p3), .val (.int (Int32.ofNat off)), .val (.int (Int32.ofNat nb)), .val (.int (if neg = true then (1 : Int32) else 0)), .val (.int (Int32.ofNat ni)), .val (.int (if pt = true then (1 : Int32) else 0)), .val (.int (Int32.ofNat nf)), .val (.int (Int32.ofNat nt)), .val (.int bg), .val (.ref b7), .val (.int (Int32.ofNat (off + ks486.length))), .val (.int (Int32.ofNat off)), .unset, .unset, .unset, .unset] [(.int p1), (.int (if (1 : Int32) < (Int32.ofNat nt) then (1 : Int32) else (0 : Int32))), (.int (Int32.ofNat (off + ks486.length))), (.ref b7)]))
  refine own_go (fun t_ k_ => XS.iconst A478.here hx rfl (hb hby at_566) k_) ?_
  show own_Go _ _ _ _ (T477.setTop (mkF m 567 #[.val (.int p0), .val (.int p1), .val (.long q2), .second, .val (.int p3), .val (.int (Int32.ofNat off)), .val (.int (Int32.ofNat nb)), .val (.int (if neg = true then (1 : Int32) else 0)), .val (.int (Int32.ofNat ni)), .val (.int (if pt = true then (1 : Int32) else 0)), .val (.int (Int32.ofNat nf)), .val (.int (Int32.ofNat nt)), .val (.int bg), .val (.ref b7), .val (.int (Int32.ofNat (off + ks486.length))), .val (.int (Int32.ofNat off)), .unset, .unset, .unset, .unset] [(.int (4 : Int32)), (.int p1), (.int (if (1 : Int32) < (Int32.ofNat nt) then (1 : Int32) else (0 : Int32))), (.int (Int32.ofNat (off + ks486.length))), (.ref b7)]))
  refine own_callS A478 hx hZ hown (y := (⟨"com/example/indexloom/indexloom/data/DataLineScalePinLaw", "blank", "(II)B"⟩ : MethodName)) (hw _ (List.mem_of_getElem? (i := 1) rfl)) (hw _ (List.mem_of_getElem? (i := 2) rfl)) (hw _ (List.mem_of_getElem? (i := 3) rfl)) (hw _ (List.mem_of_getElem? (i := 4) rfl)) (by decide) (argsL := [(.int p1), (.int (4 : Int32))]) (rest := [(.int (if (1 : Int32) < (Int32.ofNat nt) then (1 : Int32) else (0 : Int32))), (.int (Int32.ofNat (off + ks486.length))), (.ref b7)]) (rm1 l Z a0 hw p1 (4 : Int32) h479 n0 ) 3 (by decide) (by decide) rfl (by rw [hml]; rfl) (lenOf pd__II_B rfl) rfl (by show 2 * 0 + _ ≤ _; exact Nat.le_of_eq rfl) (hb hby at_567) (by decide) (by decide) (fun v496 T493 h495 A494 hQ497 => ?_)
  obtain ⟨rfl, rfl⟩ := hQ497
  show own_Go _ _ _ _ (T493.setTop (mkF m 570 #[.val (.int p0), .val (.int p1), .val (.long q2), .second, .val (.int p3), .val (.int (Int32.ofNat off)), .val (.int (Int32.ofNat nb)), .val (.int (if neg = true then (1 : Int32) else 0)), .val (.int (Int32.ofNat ni)), .val (.int (if pt = true then (1 : Int32) else 0)), .val (.int (Int32.ofNat nf)), .val (.int (Int32.ofNat nt)), .val (.int bg), .val (.ref b7), .val (.int (Int32.ofNat (off + ks486.length))), .val (.int (Int32.ofNat off)), .unset, .unset, .unset, .unset] [(.int (f1 p1 (4 : Int32))), (.int (if (1 : Int32) < (Int32.ofNat nt) then (1 : Int32) else (0 : Int32))), (.int (Int32.ofNat (off + ks486.length))), (.ref b7)]))
  refine own_callS A494 hx hZ hown (y := (⟨"com/example/indexloom/indexloom/data/DataLineScalePinLaw", "put", "([BIZB)I"⟩ : MethodName)) (hw _ (List.mem_of_getElem? (i := 5) rfl)) (hw _ (List.mem_of_getElem? (i := 6) rfl)) (hw _ (List.mem_of_getElem? (i := 3) rfl)) (hw _ (List.mem_of_getElem? (i := 7) rfl)) (by decide) (argsL := [(.ref b7), (.int (Int32.ofNat (off + ks486.length))), (.int (if (1 : Int32) < (Int32.ofNat nt) then (1 : Int32) else (0 : Int32))), (.int (f1 p1 (4 : Int32)))]) (rest := []) (rm2 l Z a0 hw b7 (if (1 : Int32) < (Int32.ofNat nt) then (1 : Int32) else (0 : Int32)) (f1 p1 (4 : Int32)) off ks486 fb483 (decide (1 < nt)) 0 h479 n0 V484 g_b7 (by omega) I485 (own_gt nt 1 (by omega) (by decide)) (own_kblank _ _) (by decide)) 0 (by decide) (by decide) rfl (by rw [hml]; rfl) (lenOf pd___BIZB_I rfl) rfl (by show 2 * 0 + _ ≤ _; exact Nat.le_of_eq rfl) (hb hby at_570) (by decide) (by decide) (fun v501 T498 h500 A499 hQ502 => ?_)
  obtain ⟨K503, fb504, rfl, V505, I506⟩ := hQ502
  have hl509 := Nat.le_trans (own_app_len ks486 (decide (1 < nt)) 0) (Nat.succ_le_succ hl488)
  generalize ek508 : own_app ks486 (decide (1 < nt)) 0 = ks507 at I506 hl509
  have Y510 : 0 ≤ h500.size := Nat.le_trans Y489 K503.1
  have O511 : Old Z n0 h500 := O490.keep K503 (allS g_b7 all0)
  have Z512 : n0 ≤ h500.size := Nat.le_trans Z491 K503.1
  show own_Go _ _ _ _ (T498.setTop (mkF m 573 #[.val (.int p0), .val (.int p1), .val (.long q2), .second, .val (.int p3), .val (.int (Int32.ofNat off)), .val (.int (Int32.ofNat nb)), .val (.int (if neg = true then (1 : Int32) else 0)), .val (.int (Int32.ofNat ni)), .val (.int (if pt = true then (1 : Int32) else 0)), .val (.int (Int32.ofNat nf)), .val (.int (Int32.ofNat nt)), .val (.int bg), .val (.ref b7), .val (.int (Int32.ofNat (off + ks486.length))), .val (.int (Int32.ofNat off)), .unset, .unset, .unset, .unset] [(.int (Int32.ofNat (off + ks507.length)))]))
  refine own_go (fun t_ k_ => XS.istore A499.here hx rfl (hb hby at_573) rfl (l' := #[.val (.int p0), .val (.int p1), .val (.long q2), .second, .val (.int p3), .val (.int (Int32.ofNat off)), .val (.int (Int32.ofNat nb)), .val (.int (if neg = true then (1 : Int32) else 0)), .val (.int (Int32.ofNat ni)), .val (.int (if pt = true then (1 : Int32) else 0)), .val (.int (Int32.ofNat nf)), .val (.int (Int32.ofNat nt)), .val (.int bg), .val (.ref b7), .val (.int (Int32.ofNat (off + ks507.length))), .val (.int (Int32.ofNat off)), .unset, .unset, .unset, .unset]) rfl k_) ?_
  show own_Go _ _ _ _ (T498.setTop (mkF m 575 #[.val (.int p0), .val (.int p1), .val (.long q2), .second, .val (.int p3), .val (.int (Int32.ofNat off)), .val (.int (Int32.ofNat nb)), .val (.int (if neg = true then (1 : Int32) else 0)), .val (.int (Int32.ofNat ni)), .val (.int (if pt = true then (1 : Int32) else 0)), .val (.int (Int32.ofNat nf)), .val (.int (Int32.ofNat nt)), .val (.int bg), .val (.ref b7), .val (.int (Int32.ofNat (off + ks507.length))), .val (.int (Int32.ofNat off)), .unset, .unset, .unset, .unset] []))
  refine own_go (fun t_ k_ => XS.aload A499.here hx rfl (hb hby at_575) rfl rfl k_) ?_
  show own_Go _ _ _ _ (T498.setTop (mkF m 577 #[.val (.int p0), .val (.int p1), .val (.long q2), .second, .val (.int p3), .val (.int (Int32.ofNat off)), .val (.int (Int32.ofNat nb)), .val (.int (if neg = true then (1 : Int32) else 0)), .val (.int (Int32.ofNat ni)), .val (.int (if pt = true then (1 : Int32) else 0)), .val (.int (Int32.ofNat nf)), .val (.int (Int32.ofNat nt)), .val (.int bg), .val (.ref b7), .val (.int (Int32.ofNat (off + ks507.length))), .val (.int (Int32.ofNat off)), .unset, .unset, .unset, .unset] [(.ref b7)]))
  refine own_go (fun t_ k_ => XS.iload A499.here hx rfl (hb hby at_577) rfl k_) ?_
  show own_Go _ _ _ _ (T498.setTop (mkF m 579 #[.val (.int p0), .val (.int p1), .val (.long q2), .second, .val (.int p3), .val (.int (Int32.ofNat off)), .val (.int (Int32.ofNat nb)), .val (.int (if neg = true then (1 : Int32) else 0)), .val (.int (Int32.ofNat ni)), .val (.int (if pt = true then (1 : Int32) else 0)), .val (.int (Int32.ofNat nf)), .val (.int (Int32.ofNat nt)), .val (.int bg), .val (.ref b7), .val (.int (Int32.ofNat (off + ks507.length))), .val (.int (Int32.ofNat off)), .unset, .unset, .unset, .unset] [(.int (Int32.ofNat (off + ks507.length))), (.ref b7)]))
  refine own_go (fun t_ k_ => XS.iload A499.here hx rfl (hb hby at_579) rfl k_) ?_
  show own_Go _ _ _ _ (T498.setTop (mkF m 581 #[.val (.int p0), .val (.int p1), .val (.long q2), .second, .val (.int p3), .val (.int (Int32.ofNat off)), .val (.int (Int32.ofNat nb)), .val (.int (if neg = true then (1 : Int32) else 0)), .val (.int (Int32.ofNat ni)), .val (.int (if pt = true then (1 : Int32) else 0)), .val (.int (Int32.ofNat nf)), .val (.int (Int32.ofNat nt)), .val (.int bg), .val (.ref b7), .val (.int (Int32.ofNat (off + ks507.length))), .val (.int (Int32.ofNat off)), .unset, .unset, .unset, .unset] [(.int (Int32.ofNat nt)), (.int (Int32.ofNat (off + ks507.length))), (.ref b7)]))
  refine own_go (fun t_ k_ => XS.iconst A499.here hx rfl (hb hby at_581) k_) ?_
  show own_Go _ _ _ _ (T498.setTop (mkF m 582 #[.val (.int p0), .val (.int p1), .val (.long q2), .second, .val (.int p3), .val (.int (Int32.ofNat off)), .val (.int (Int32.ofNat nb)), .val (.int (if neg = true then (1 : Int32) else 0)), .val (.int (Int32.ofNat ni)), .val (.int (if pt = true then (1 : Int32) else 0)), .val (.int (Int32.ofNat nf)), .val (.int (Int32.ofNat nt)), .val (.int bg), .val (.ref b7), .val (.int (Int32.ofNat (off + ks507.length))), .val (.int (Int32.ofNat off)), .unset, .unset, .unset, .unset] [(.int (2 : Int32)), (.int (Int32.ofNat nt)), (.int (Int32.ofNat (off + ks507.length))), (.ref b7)]))
  have mg513 : ∀ t_, Steps p.tables e below (T498.setTop (mkF m 590 #[.val (.int p0), .val (.int p1), .val (.long q2), .second, .val (.int p3), .val (.int (Int32.ofNat off)), .val (.int (Int32.ofNat nb)), .val (.int (if neg = true then (1 : Int32) else 0)), .val (.int (Int32.ofNat ni)), .val (.int (if pt = true then (1 : Int32) else 0)), .val (.int (Int32.ofNat nf)), .val (.int (Int32.ofNat nt)), .val (.int bg), .val (.ref b7), .val (.int (Int32.ofNat (off + ks507.length))), .val (.int (Int32.ofNat off)), .unset, .unset, .unset, .unset] [(.int (if (2 : Int32) < (Int32.ofNat nt) then (1 : Int32) else (0 : Int32))), (.int (Int32.ofNat (off + ks507.length))), (.ref b7)])) t_ → Steps p.tables e below (T498.setTop (mkF m 582 #[.val (.int p0), .val (.int p1), .val (.long q2), .second, .val (.int p3), .val (.int (Int32.ofNat off)), .val (.int (Int32.ofNat nb)), .val (.int (if neg = true then (1 : Int32) else 0)), .val (.int (Int32.ofNat ni)), .val (.int (if pt = true then (1 : Int32) else 0)), .val (.int (Int32.ofNat nf)), .val (.int (Int32.ofNat nt)), .val (.int bg), .val (.ref b7), .val (.int (Int32.ofNat (off + ks507.length))), .val (.int (Int32.ofNat off)), .unset, .unset, .unset, .unset] [(.int (2 : Int32)), (.int (Int32.ofNat nt)), (.int (Int32.ofNat (off + ks507.length))), (.ref b7)])) t_ := by
    intro t_ k_
    by_cases hm582_0 : (2 : Int32) < (Int32.ofNat nt)
    ·
      simp only [if_pos hm582_0] at k_
      exact (XS.icmpNo A499.here hx rfl (hb hby at_582) rfl (tlt hm582_0).2.2.2 (XS.iconst A499.here hx rfl (hb hby at_585) (XS.goto A499.here hx rfl (pc0 := 586) (pc' := 590) rfl (hb hby at_586) (by decide) (by decide) k_)))
    ·
      simp only [if_neg hm582_0] at k_
      exact (XS.icmpYes A499.here hx rfl (pc0 := 582) (pc' := 589) rfl (hb hby at_582) rfl (flt hm582_0).2.2.2 (by decide) (by decide) (XS.iconst A499.here hx rfl (hb hby at_589) k_))
  refine own_go mg513 ?_
  show own_Go _ _ _ _ (T498.setTop (mkF m 590 #[.val (.int p0), .val (.int p1), .val (.long q2), .second, .val (.int p3), .val (.int (Int32.ofNat off)), .val (.int (Int32.ofNat nb)), .val (.int (if neg = true then (1 : Int32) else 0)), .val (.int (Int32.ofNat ni)), .val (.int (if pt = true then (1 : Int32) else 0)), .val (.int (Int32.ofNat nf)), .val (.int (Int32.ofNat nt)), .val (.int bg), .val (.ref b7), .val (.int (Int32.ofNat (off + ks507.length))), .val (.int (Int32.ofNat off)), .unset, .unset, .unset, .unset] [(.int (if (2 : Int32) < (Int32.ofNat nt) then (1 : Int32) else (0 : Int32))), (.int (Int32.ofNat (off + ks507.length))), (.ref b7)]))
  refine own_go (fun t_ k_ => XS.iloadN A499.here hx rfl (hb hby at_590) rfl k_) ?_
  show own_Go _ _ _ _ (T498.setTop (mkF m 591 #[.val (.int p0), .val (.int p1), .val (.long q2), .second, .val (.int p3), .val (.int (Int32.ofNat off)), .val (.int (Int32.ofNat nb)), .val (.int (if neg = true then (1 : Int32) else 0)), .val (.int (Int32.ofNat ni)), .val (.int (if pt = true then (1 : Int32) else 0)), .val (.int (Int32.ofNat nf)), .val (.int (Int32.ofNat nt)), .val (.int bg), .val (.ref b7), .val (.int (Int32.ofNat (off + ks507.length))), .val (.int (Int32.ofNat off)), .unset, .unset, .unset, .unset] [(.int p1), (.int (if (2 : Int32) < (Int32.ofNat nt) then (1 : Int32) else (0 : Int32))), (.int (Int32.ofNat (off + ks507.length))), (.ref b7)]))
  refine own_go (fun t_ k_ => XS.iconst A499.here hx rfl (hb hby at_591) k_) ?_
  show own_Go _ _ _ _ (T498.setTop (mkF m 592 #[.val (.int p0), .val (.int p1), .val (.long q2), .second, .val (.int p3), .val (.int (Int32.ofNat off)), .val (.int (Int32.ofNat nb)), .val (.int (if neg = true then (1 : Int32) else 0)), .val (.int (Int32.ofNat ni)), .val (.int (if pt = true then (1 : Int32) else 0)), .val (.int (Int32.ofNat nf)), .val (.int (Int32.ofNat nt)), .val (.int bg), .val (.ref b7), .val (.int (Int32.ofNat (off + ks507.length))), .val (.int (Int32.ofNat off)), .unset, .unset, .unset, .unset] [(.int (5 : Int32)), (.int p1), (.int (if (2 : Int32) < (Int32.ofNat nt) then (1 : Int32) else (0 : Int32))), (.int (Int32.ofNat (off + ks507.length))), (.ref b7)]))
  refine own_callS A499 hx hZ hown (y := (⟨"com/example/indexloom/indexloom/data/DataLineScalePinLaw", "blank", "(II)B"⟩ : MethodName)) (hw _ (List.mem_of_getElem? (i := 1) rfl)) (hw _ (List.mem_of_getElem? (i := 2) rfl)) (hw _ (List.mem_of_getElem? (i := 3) rfl)) (hw _ (List.mem_of_getElem? (i := 4) rfl)) (by decide) (argsL := [(.int p1), (.int (5 : Int32))]) (rest := [(.int (if (2 : Int32) < (Int32.ofNat nt) then (1 : Int32) else (0 : Int32))), (.int (Int32.ofNat (off + ks507.length))), (.ref b7)]) (rm1 l Z a0 hw p1 (5 : Int32) h500 n0 ) 3 (by decide) (by decide) rfl (by rw [hml]; rfl) (lenOf pd__II_B rfl) rfl (by show 2 * 0 + _ ≤ _; exact Nat.le_of_eq rfl) (hb hby at_592) (by decide) (by decide) (fun v517 T514 h516 A515 hQ518 => ?_)
  obtain ⟨rfl, rfl⟩ := hQ518
  show own_Go _ _ _ _ (T514.setTop (mkF m 595 #[.val (.int p0), .val (.int p1), .val (.long q2), .second, .val (.int p3), .val (.int (Int32.ofNat off)), .val (.int (Int32.ofNat nb)), .val (.int (if neg = true then (1 : Int32) else 0)), .val (.int (Int32.ofNat ni)), .val (.int (if pt = true then (1 : Int32) else 0)), .val (.int (Int32.ofNat nf)), .val (.int (Int32.ofNat nt)), .val (.int bg), .val (.ref b7), .val (.int (Int32.ofNat (off + ks507.length))), .val (.int (Int32.ofNat off)), .unset, .unset, .unset, .unset] [(.int (f1 p1 (5 : Int32))), (.int (if (2 : Int32) < (Int32.ofNat nt) then (1 : Int32) else (0 : Int32))), (.int (Int32.ofNat (off + ks507.length))), (.ref b7)]))
  refine own_callS A515 hx hZ hown (y := (⟨"com/example/indexloom/indexloom/data/DataLineScalePinLaw", "put", "([BIZB)I"⟩ : MethodName)) (hw _ (List.mem_of_getElem? (i := 5) rfl)) (hw _ (List.mem_of_getElem? (i := 6) rfl)) (hw _ (List.mem_of_getElem? (i := 3) rfl)) (hw _ (List.mem_of_getElem? (i := 7) rfl)) (by decide) (argsL := [(.ref b7), (.int (Int32.ofNat (off + ks507.length))), (.int (if (2 : Int32) < (Int32.ofNat nt) then (1 : Int32) else (0 : Int32))), (.int (f1 p1 (5 : Int32)))]) (rest := []) (rm2 l Z a0 hw b7 (if (2 : Int32) < (Int32.ofNat nt) then (1 : Int32) else (0 : Int32)) (f1 p1 (5 : Int32)) off ks507 fb504 (decide (2 < nt)) 0 h500 n0 V505 g_b7 (by omega) I506 (own_gt nt 2 (by omega) (by decide)) (own_kblank _ _) (by decide)) 0 (by decide) (by decide) rfl (by rw [hml]; rfl) (lenOf pd___BIZB_I rfl) rfl (by show 2 * 0 + _ ≤ _; exact Nat.le_of_eq rfl) (hb hby at_595) (by decide) (by decide) (fun v522 T519 h521 A520 hQ523 => ?_)
  obtain ⟨K524, fb525, rfl, V526, I527⟩ := hQ523
  have hl530 := Nat.le_trans (own_app_len ks507 (decide (2 < nt)) 0) (Nat.succ_le_succ hl509)
  generalize ek529 : own_app ks507 (decide (2 < nt)) 0 = ks528 at I527 hl530
  have Y531 : 0 ≤ h521.size := Nat.le_trans Y510 K524.1
  have O532 : Old Z n0 h521 := O511.keep K524 (allS g_b7 all0)
  have Z533 : n0 ≤ h521.size := Nat.le_trans Z512 K524.1
  show own_Go _ _ _ _ (T519.setTop (mkF m 598 #[.val (.int p0), .val (.int p1), .val (.long q2), .second, .val (.int p3), .val (.int (Int32.ofNat off)), .val (.int (Int32.ofNat nb)), .val (.int (if neg = true then (1 : Int32) else 0)), .val (.int (Int32.ofNat ni)), .val (.int (if pt = true then (1 : Int32) else 0)), .val (.int (Int32.ofNat nf)), .val (.int (Int32.ofNat nt)), .val (.int bg), .val (.ref b7), .val (.int (Int32.ofNat (off + ks507.length))), .val (.int (Int32.ofNat off)), .unset, .unset, .unset, .unset] [(.int (Int32.ofNat (off + ks528.length)))]))
  refine own_go (fun t_ k_ => XS.istore A520.here hx rfl (hb hby at_598) rfl (l' := #[.val (.int p0), .val (.int p1), .val (.long q2), .second, .val (.int p3), .val (.int (Int32.ofNat off)), .val (.int (Int32.ofNat nb)), .val (.int (if neg = true then (1 : Int32) else 0)), .val (.int (Int32.ofNat ni)), .val (.int (if pt = true then (1 : Int32) else 0)), .val (.int (Int32.ofNat nf)), .val (.int (Int32.ofNat nt)), .val (.int bg), .val (.ref b7), .val (.int (Int32.ofNat (off + ks528.length))), .val (.int (Int32.ofNat off)), .unset, .unset, .unset, .unset]) rfl k_) ?_
  show own_Go _ _ _ _ (T519.setTop (mkF m 600 #[.val (.int p0), .val (.int p1), .val (.long q2), .second, .val (.int p3), .val (.int (Int32.ofNat off)), .val (.int (Int32.ofNat nb)), .val (.int (if neg = true then (1 : Int32) else 0)), .val (.int (Int32.ofNat ni)), .val (.int (if pt = true then (1 : Int32) else 0)), .val (.int (Int32.ofNat nf)), .val (.int (Int32.ofNat nt)), .val (.int bg), .val (.ref b7), .val (.int (Int32.ofNat (off + ks528.length))), .val (.int (Int32.ofNat off)), .unset, .unset, .unset, .unset] []))
  refine own_go (fun t_ k_ => XS.iload A520.here hx rfl (hb hby at_600) rfl k_) ?_
  show own_Go _ _ _ _ (T519.setTop (mkF m 602 #[.val (.int p0), .val (.int p1), .val (.long q2), .second, .val (.int p3), .val (.int (Int32.ofNat off)), .val (.int (Int32.ofNat nb)), .val (.int (if neg = true then (1 : Int32) else 0)), .val (.int (Int32.ofNat ni)), .val (.int (if pt = true then (1 : Int32) else 0)), .val (.int (Int32.ofNat nf)), .val (.int (Int32.ofNat nt)), .val (.int bg), .val (.ref b7), .val (.int (Int32.ofNat (off + ks528.length))), .val (.int (Int32.ofNat off)), .unset, .unset, .unset, .unset] [(.int (Int32.ofNat (off + ks528.length)))]))
  refine own_go (fun t_ k_ => XS.istore A520.here hx rfl (hb hby at_602) rfl (l' := #[.val (.int p0), .val (.int p1), .val (.long q2), .second, .val (.int p3), .val (.int (Int32.ofNat off)), .val (.int (Int32.ofNat nb)), .val (.int (if neg = true then (1 : Int32) else 0)), .val (.int (Int32.ofNat ni)), .val (.int (if pt = true then (1 : Int32) else 0)), .val (.int (Int32.ofNat nf)), .val (.int (Int32.ofNat nt)), .val (.int bg), .val (.ref b7), .val (.int (Int32.ofNat (off + ks528.length))), .val (.int (Int32.ofNat off)), .val (.int (Int32.ofNat (off + ks528.length))), .unset, .unset, .unset]) rfl k_) ?_
  show own_Go _ _ _ _ (T519.setTop (mkF m 604 #[.val (.int p0), .val (.int p1), .val (.long q2), .second, .val (.int p3), .val (.int (Int32.ofNat off)), .val (.int (Int32.ofNat nb)), .val (.int (if neg = true then (1 : Int32) else 0)), .val (.int (Int32.ofNat ni)), .val (.int (if pt = true then (1 : Int32) else 0)), .val (.int (Int32.ofNat nf)), .val (.int (Int32.ofNat nt)), .val (.int bg), .val (.ref b7), .val (.int (Int32.ofNat (off + ks528.length))), .val (.int (Int32.ofNat off)), .val (.int (Int32.ofNat (off + ks528.length))), .unset, .unset, .unset] []))
  have eK : own_ks nb neg ni pt nf nt = ks528 := by rw [own_ks, ek228, ek249, ek270, ek285, ek305, ek326, ek347, ek368, ek383, ek403, ek424, ek445, ek466, ek487, ek508, ek529]
  have HP := own_plain off nb ni nf nt neg pt hoff hnb hni hnf hnt
  rw [eK] at HP
  obtain ⟨HP1, HPa, HPb, HPc, HP3, HP4⟩ := own_one_spec HP
  refine own_newO A520 hx hZ hown (hw _ (List.mem_of_getElem? (i := 13) rfl)) (hw _ (List.mem_of_getElem? (i := 14) rfl)) (hw _ (List.mem_of_getElem? (i := 15) rfl)) rfl (hb hby at_604) (by decide) (by decide) (fun T534 h536 b537 ha_b537 A535 E538 X539 D540 => ?_)
  have ne_b7_b537 : b7 ≠ b537 := Nat.ne_of_lt (by rw [ha_b537]; exact V526.lt)
  have g_b537 : n0 ≤ b537 := by rw [ha_b537]; exact Z533
  have Y541 : 0 ≤ h536.size := Nat.le_trans Y531 E538.1
  have O542 : Old Z n0 h536 := O532.ext E538
  have Z543 : n0 ≤ h536.size := Nat.le_trans Z533 E538.1
  have V544 : own_Arr Z h536 b7 .byte (22 : Int32) fb525 := V526.ext E538
  have F545 : Fld Z h536 b537 "com/example/indexloom/indexloom/data/DataHeader" "file" "Ljava/lang/String;" .null := D540 (Or.inr (hw _ (List.mem_of_getElem? (i := 77) rfl))) (ty := (.object "java/lang/String")) (by decide)
  have F546 : Fld Z h536 b537 "com/example/indexloom/indexloom/data/DataHeader" "names" "[Ljava/lang/String;" .null := D540 (Or.inr (hw _ (List.mem_of_getElem? (i := 81) rfl))) (ty := (.array (.object "java/lang/String"))) (by decide)
  show own_Go _ _ _ _ (T534.setTop (mkF m 607 #[.val (.int p0), .val (.int p1), .val (.long q2), .second, .val (.int p3), .val (.int (Int32.ofNat off)), .val (.int (Int32.ofNat nb)), .val (.int (if neg = true then (1 : Int32) else 0)), .val (.int (Int32.ofNat ni)), .val (.int (if pt = true then (1 : Int32) else 0)), .val (.int (Int32.ofNat nf)), .val (.int (Int32.ofNat nt)), .val (.int bg), .val (.ref b7), .val (.int (Int32.ofNat (off + ks528.length))), .val (.int (Int32.ofNat off)), .val (.int (Int32.ofNat (off + ks528.length))), .unset, .unset, .unset] [(.ref b537)]))
  refine own_go (fun t_ k_ => XS.dup A535.here hx rfl (hb hby at_607) rfl rfl k_) ?_
  show own_Go _ _ _ _ (T534.setTop (mkF m 608 #[.val (.int p0), .val (.int p1), .val (.long q2), .second, .val (.int p3), .val (.int (Int32.ofNat off)), .val (.int (Int32.ofNat nb)), .val (.int (if neg = true then (1 : Int32) else 0)), .val (.int (Int32.ofNat ni)), .val (.int (if pt = true then (1 : Int32) else 0)), .val (.int (Int32.ofNat nf)), .val (.int (Int32.ofNat nt)), .val (.int bg), .val (.ref b7), .val (.int (Int32.ofNat (off + ks528.length))), .val (.int (Int32.ofNat off)), .val (.int (Int32.ofNat (off + ks528.length))), .unset, .unset, .unset] [(.ref b537), (.ref b537)]))
  refine own_ldcB A535 hx hZ hown (hw _ (List.mem_of_getElem? (i := 16) rfl)) (own_wS hw) hS Y541 hn0 hkeep hI (by decide) (show Jvm.Lit.constHeld Z "com/example/indexloom/indexloom/data/DataLineScalePinLaw" 23 from hH ("com/example/indexloom/indexloom/data/DataLineScalePinLaw", 23) (by decide)) hcw (xs := [102]) (z := (1 : Int32)) ⟨by decide +kernel, by decide +kernel⟩ (by decide) rfl rfl (hb hby at_608) 4 (by decide +kernel) (by decide) (by decide) (by decide) (fun T547 h549 b550 b551 vm552 k553 A548 E554 hS555 hk556 hZ hown hI557 X558 F559 F560 X562 V561 => ?_)
  have O563 : Old Z n0 h549 := O542.ext E554
  have Z564 : n0 ≤ h549.size := Nat.le_trans Z543 E554.1
  have V565 : own_Arr Z h549 b7 .byte (22 : Int32) fb525 := V544.ext E554
  have E566 : Exa Z h549 b537 "com/example/indexloom/indexloom/data/DataHeader" := X539.ext E554
  have F567 : Fld Z h549 b537 "com/example/indexloom/indexloom/data/DataHeader" "file" "Ljava/lang/String;" .null := F545.ext E554
  have F568 : Fld Z h549 b537 "com/example/indexloom/indexloom/data/DataHeader" "names" "[Ljava/lang/String;" .null := F546.ext E554
  show own_Go _ _ _ _ (T547.setTop (mkF m 610 #[.val (.int p0), .val (.int p1), .val (.long q2), .second, .val (.int p3), .val (.int (Int32.ofNat off)), .val (.int (Int32.ofNat nb)), .val (.int (if neg = true then (1 : Int32) else 0)), .val (.int (Int32.ofNat ni)), .val (.int (if pt = true then (1 : Int32) else 0)), .val (.int (Int32.ofNat nf)), .val (.int (Int32.ofNat nt)), .val (.int bg), .val (.ref b7), .val (.int (Int32.ofNat (off + ks528.length))), .val (.int (Int32.ofNat off)), .val (.int (Int32.ofNat (off + ks528.length))), .unset, .unset, .unset] [(.ref b550), (.ref b537), (.ref b537)]))
  refine own_ldcB A548 hx hZ hown (hw _ (List.mem_of_getElem? (i := 23) rfl)) (own_wS hw) hS555 hk556 hn0 hkeep hI557 (by decide) (show Jvm.Lit.constHeld Z "com/example/indexloom/indexloom/data/DataLineScalePinLaw" 25 from hH ("com/example/indexloom/indexloom/data/DataLineScalePinLaw", 25) (by decide)) hcw (xs := [99]) (z := (1 : Int32)) ⟨by decide +kernel, by decide +kernel⟩ (by decide) rfl rfl (hb hby at_610) 4 (by decide +kernel) (by decide) (by decide) (by decide) (fun T569 h571 b572 b573 vm574 k575 A570 E576 hS577 hk578 hZ hown hI579 X580 F581 F582 X584 V583 => ?_)
  have O585 : Old Z n0 h571 := O563.ext E576
  have Z586 : n0 ≤ h571.size := Nat.le_trans Z564 E576.1
  have V587 : own_Arr Z h571 b7 .byte (22 : Int32) fb525 := V565.ext E576
  have E588 : Exa Z h571 b537 "com/example/indexloom/indexloom/data/DataHeader" := E566.ext E576
  have F589 : Fld Z h571 b537 "com/example/indexloom/indexloom/data/DataHeader" "file" "Ljava/lang/String;" .null := F567.ext E576
  have F590 : Fld Z h571 b537 "com/example/indexloom/indexloom/data/DataHeader" "names" "[Ljava/lang/String;" .null := F568.ext E576
  have E591 : Exa Z h571 b551 "[B" := X562.ext E576
  have E592 : Exa Z h571 b550 "java/lang/String" := X558.ext E576
  have F593 : Fld Z h571 b550 "java/lang/String" "coder" "B" (.int (0 : Int32)) := F559.ext E576
  have F594 : Fld Z h571 b550 "java/lang/String" "value" "[B" (.ref b551) := F560.ext E576
  have V595 : own_Arr Z h571 b551 .byte (1 : Int32) (fun j => ([102] : List Int32).getD j.toNatClampNeg 0) := V561.ext E576
  show own_Go _ _ _ _ (T569.setTop (mkF m 612 #[.val (.int p0), .val (.int p1), .val (.long q2), .second, .val (.int p3), .val (.int (Int32.ofNat off)), .val (.int (Int32.ofNat nb)), .val (.int (if neg = true then (1 : Int32) else 0)), .val (.int (Int32.ofNat ni)), .val (.int (if pt = true then (1 : Int32) else 0)), .val (.int (Int32.ofNat nf)), .val (.int (Int32.ofNat nt)), .val (.int bg), .val (.ref b7), .val (.int (Int32.ofNat (off + ks528.length))), .val (.int (Int32.ofNat off)), .val (.int (Int32.ofNat (off + ks528.length))), .unset, .unset, .unset] [(.ref b572), (.ref b550), (.ref b537), (.ref b537)]))
  refine own_callI A570 hx hZ (y := (⟨"com/example/indexloom/indexloom/data/DataHeader", "<init>", "(Ljava/lang/String;Ljava/lang/String;)V"⟩ : MethodName)) rfl hown (hw _ (List.mem_of_getElem? (i := 24) rfl)) (hw _ (List.mem_of_getElem? (i := 25) rfl)) (hw _ (List.mem_of_getElem? (i := 15) rfl)) (hw _ (List.mem_of_getElem? (i := 26) rfl)) (by decide) (b := b537) (argsL := [(.ref b550), (.ref b572)]) (rest := [(.ref b537)]) (rm4 l Z a0 hw b537 b550 b572 b573 u8 z_C s_F h571 n0 O585 Z586 E588 F589 F590 g_b537 X580 F581 F582 V583 X584 hz hr_F EU8 S_UTF_8 S_INSTANCE S_COMPACT_STRINGS S_SIOOBE_FORMATTER) 1 (by decide) (by decide) rfl (by rw [hml]; rfl) (lenOf pd__Ljava_lang_String_Ljava_lang_String__V rfl) rfl (by show 2 * 0 + _ ≤ _; exact Nat.le_of_eq rfl) (hb hby at_612) (by decide) (by decide) (fun v599 T596 h598 A597 hQ600 => ?_)
  obtain ⟨rfl, K601, t602, gt603, nt604, F605, V606⟩ := hQ600
  have ne_b7_t602 : b7 ≠ t602 := Nat.ne_of_lt (Nat.lt_of_lt_of_le V587.lt nt604)
  have ne_b537_t602 : b537 ≠ t602 := Nat.ne_of_lt (Nat.lt_of_lt_of_le E588.lt nt604)
  have O607 : Old Z n0 h598 := O585.keep K601 (allS g_b537 all0)
  have Z608 : n0 ≤ h598.size := Nat.le_trans Z586 K601.1
  have V609 : own_Arr Z h598 b7 .byte (22 : Int32) fb525 := V587.keep K601 (ninS ne_b7_b537 nin0)
  have E610 : Exa Z h598 b537 "com/example/indexloom/indexloom/data/DataHeader" := E588.keep K601
  have Y611 : k575 ≤ h598.size := Nat.le_trans hk578 K601.1
  show own_Go _ _ _ _ (T596.setTop (mkF m 615 #[.val (.int p0), .val (.int p1), .val (.long q2), .second, .val (.int p3), .val (.int (Int32.ofNat off)), .val (.int (Int32.ofNat nb)), .val (.int (if neg = true then (1 : Int32) else 0)), .val (.int (Int32.ofNat ni)), .val (.int (if pt = true then (1 : Int32) else 0)), .val (.int (Int32.ofNat nf)), .val (.int (Int32.ofNat nt)), .val (.int bg), .val (.ref b7), .val (.int (Int32.ofNat (off + ks528.length))), .val (.int (Int32.ofNat off)), .val (.int (Int32.ofNat (off + ks528.length))), .unset, .unset, .unset] [(.ref b537)]))
  refine own_go (fun t_ k_ => XS.astore A597.here hx rfl (hb hby at_615) rfl rfl (l' := #[.val (.int p0), .val (.int p1), .val (.long q2), .second, .val (.int p3), .val (.int (Int32.ofNat off)), .val (.int (Int32.ofNat nb)), .val (.int (if neg = true then (1 : Int32) else 0)), .val (.int (Int32.ofNat ni)), .val (.int (if pt = true then (1 : Int32) else 0)), .val (.int (Int32.ofNat nf)), .val (.int (Int32.ofNat nt)), .val (.int bg), .val (.ref b7), .val (.int (Int32.ofNat (off + ks528.length))), .val (.int (Int32.ofNat off)), .val (.int (Int32.ofNat (off + ks528.length))), .val (.ref b537), .unset, .unset]) rfl k_) ?_
  show own_Go _ _ _ _ (T596.setTop (mkF m 617 #[.val (.int p0), .val (.int p1), .val (.long q2), .second, .val (.int p3), .val (.int (Int32.ofNat off)), .val (.int (Int32.ofNat nb)), .val (.int (if neg = true then (1 : Int32) else 0)), .val (.int (Int32.ofNat ni)), .val (.int (if pt = true then (1 : Int32) else 0)), .val (.int (Int32.ofNat nf)), .val (.int (Int32.ofNat nt)), .val (.int bg), .val (.ref b7), .val (.int (Int32.ofNat (off + ks528.length))), .val (.int (Int32.ofNat off)), .val (.int (Int32.ofNat (off + ks528.length))), .val (.ref b537), .unset, .unset] []))
  refine own_newO A597 hx hZ hown (hw _ (List.mem_of_getElem? (i := 111) rfl)) (hw _ (List.mem_of_getElem? (i := 112) rfl)) (hw _ (List.mem_of_getElem? (i := 113) rfl)) rfl (hb hby at_617) (by decide) (by decide) (fun T612 h614 b615 ha_b615 A613 E616 X617 D618 => ?_)
  have ne_b7_b615 : b7 ≠ b615 := Nat.ne_of_lt (by rw [ha_b615]; exact V609.lt)
  have ne_b537_b615 : b537 ≠ b615 := Nat.ne_of_lt (by rw [ha_b615]; exact E610.lt)
  have ne_t602_b615 : t602 ≠ b615 := Nat.ne_of_lt (by rw [ha_b615]; exact V606.lt)
  have g_b615 : n0 ≤ b615 := by rw [ha_b615]; exact Z608
  have O619 : Old Z n0 h614 := O607.ext E616
  have Z620 : n0 ≤ h614.size := Nat.le_trans Z608 E616.1
  have V621 : own_Arr Z h614 b7 .byte (22 : Int32) fb525 := V609.ext E616
  have E622 : Exa Z h614 b537 "com/example/indexloom/indexloom/data/DataHeader" := E610.ext E616
  have Y623 : k575 ≤ h614.size := Nat.le_trans Y611 E616.1
  have F624 : Fld Z h614 b537 "com/example/indexloom/indexloom/data/DataHeader" "names" "[Ljava/lang/String;" (.ref t602) := F605.ext E616
  have V625 : own_ArrR Z h614 t602 "java/lang/String" (1 : Int32) := V606.ext E616
  have F626 : Fld Z h614 b615 "com/example/indexloom/indexloom/data/DataLine" "header" "Lcom/example/indexloom/indexloom/data/DataHeader;" .null := D618 (Or.inr (hw _ (List.mem_of_getElem? (i := 119) rfl))) (ty := (.object "com/example/indexloom/indexloom/data/DataHeader")) (by decide)
  have F627 : Fld Z h614 b615 "com/example/indexloom/indexloom/data/DataLine" "bounds" "[I" .null := D618 (Or.inr (hw _ (List.mem_of_getElem? (i := 126) rfl))) (ty := (.array .int)) (by decide)
  have F628 : Fld Z h614 b615 "com/example/indexloom/indexloom/data/DataLine" "number" "I" (.int (0 : Int32)) := D618 (Or.inl (hw _ (List.mem_of_getElem? (i := 134) rfl))) (ty := .int) (by decide)
  have F629 : Fld Z h614 b615 "com/example/indexloom/indexloom/data/DataLine" "bytes" "[B" .null := D618 (Or.inl (hw _ (List.mem_of_getElem? (i := 136) rfl))) (ty := (.array .byte)) (by decide)
  show own_Go _ _ _ _ (T612.setTop (mkF m 620 #[.val (.int p0), .val (.int p1), .val (.long q2), .second, .val (.int p3), .val (.int (Int32.ofNat off)), .val (.int (Int32.ofNat nb)), .val (.int (if neg = true then (1 : Int32) else 0)), .val (.int (Int32.ofNat ni)), .val (.int (if pt = true then (1 : Int32) else 0)), .val (.int (Int32.ofNat nf)), .val (.int (Int32.ofNat nt)), .val (.int bg), .val (.ref b7), .val (.int (Int32.ofNat (off + ks528.length))), .val (.int (Int32.ofNat off)), .val (.int (Int32.ofNat (off + ks528.length))), .val (.ref b537), .unset, .unset] [(.ref b615)]))
  refine own_go (fun t_ k_ => XS.dup A613.here hx rfl (hb hby at_620) rfl rfl k_) ?_
  show own_Go _ _ _ _ (T612.setTop (mkF m 621 #[.val (.int p0), .val (.int p1), .val (.long q2), .second, .val (.int p3), .val (.int (Int32.ofNat off)), .val (.int (Int32.ofNat nb)), .val (.int (if neg = true then (1 : Int32) else 0)), .val (.int (Int32.ofNat ni)), .val (.int (if pt = true then (1 : Int32) else 0)), .val (.int (Int32.ofNat nf)), .val (.int (Int32.ofNat nt)), .val (.int bg), .val (.ref b7), .val (.int (Int32.ofNat (off + ks528.length))), .val (.int (Int32.ofNat off)), .val (.int (Int32.ofNat (off + ks528.length))), .val (.ref b537), .unset, .unset] [(.ref b615), (.ref b615)]))
  refine own_go (fun t_ k_ => XS.aload A613.here hx rfl (hb hby at_621) rfl rfl k_) ?_
  show own_Go _ _ _ _ (T612.setTop (mkF m 623 #[.val (.int p0), .val (.int p1), .val (.long q2), .second, .val (.int p3), .val (.int (Int32.ofNat off)), .val (.int (Int32.ofNat nb)), .val (.int (if neg = true then (1 : Int32) else 0)), .val (.int (Int32.ofNat ni)), .val (.int (if pt = true then (1 : Int32) else 0)), .val (.int (Int32.ofNat nf)), .val (.int (Int32.ofNat nt)), .val (.int bg), .val (.ref b7), .val (.int (Int32.ofNat (off + ks528.length))), .val (.int (Int32.ofNat off)), .val (.int (Int32.ofNat (off + ks528.length))), .val (.ref b537), .unset, .unset] [(.ref b537), (.ref b615), (.ref b615)]))
  refine own_callI A613 hx hZ (y := (⟨"com/example/indexloom/indexloom/data/DataLine", "<init>", "(Lcom/example/indexloom/indexloom/data/DataHeader;)V"⟩ : MethodName)) rfl hown (hw _ (List.mem_of_getElem? (i := 114) rfl)) (hw _ (List.mem_of_getElem? (i := 115) rfl)) (hw _ (List.mem_of_getElem? (i := 113) rfl)) (hw _ (List.mem_of_getElem? (i := 116) rfl)) (by decide) (b := b615) (argsL := [(.ref b537)]) (rest := [(.ref b615)]) (rm20 l Z a0 hw b615 b537 t602 h614 n0 Z620 X617 F626 F627 F628 F629 g_b615 E622 F624 V625 (Ne.symm ne_b537_b615) (Ne.symm ne_t602_b615)) 1 (by decide) (by decide) rfl (by rw [hml]; rfl) (lenOf pd__Lcom_example_indexloom_indexloom_data_DataHeader__V rfl) rfl (by show 2 * 0 + _ ≤ _; exact Nat.le_of_eq rfl) (hb hby at_623) (by decide) (by decide) (fun v633 T630 h632 A631 hQ634 => ?_)
  obtain ⟨rfl, K635, F636, F637, F638, t639, gt640, nt641, F642, V643⟩ := hQ634
  have ne_b7_t639 : b7 ≠ t639 := Nat.ne_of_lt (Nat.lt_of_lt_of_le V621.lt nt641)
  have ne_b537_t639 : b537 ≠ t639 := Nat.ne_of_lt (Nat.lt_of_lt_of_le E622.lt nt641)
  have ne_t602_t639 : t602 ≠ t639 := Nat.ne_of_lt (Nat.lt_of_lt_of_le V625.lt nt641)
  have ne_b615_t639 : b615 ≠ t639 := Nat.ne_of_lt (Nat.lt_of_lt_of_le X617.lt nt641)
  have O644 : Old Z n0 h632 := O619.keep K635 (allS g_b615 all0)
  have Z645 : n0 ≤ h632.size := Nat.le_trans Z620 K635.1
  have V646 : own_Arr Z h632 b7 .byte (22 : Int32) fb525 := V621.keep K635 (ninS ne_b7_b615 nin0)
  have E647 : Exa Z h632 b537 "com/example/indexloom/indexloom/data/DataHeader" := E622.keep K635
  have Y648 : k575 ≤ h632.size := Nat.le_trans Y623 K635.1
  have F649 : Fld Z h632 b537 "com/example/indexloom/indexloom/data/DataHeader" "names" "[Ljava/lang/String;" (.ref t602) := F624.keep K635 (ninS ne_b537_b615 nin0)
  have V650 : own_ArrR Z h632 t602 "java/lang/String" (1 : Int32) := V625.keep K635 (ninS ne_t602_b615 nin0)
  have E651 : Exa Z h632 b615 "com/example/indexloom/indexloom/data/DataLine" := X617.keep K635
  show own_Go _ _ _ _ (T630.setTop (mkF m 626 #[.val (.int p0), .val (.int p1), .val (.long q2), .second, .val (.int p3), .val (.int (Int32.ofNat off)), .val (.int (Int32.ofNat nb)), .val (.int (if neg = true then (1 : Int32) else 0)), .val (.int (Int32.ofNat ni)), .val (.int (if pt = true then (1 : Int32) else 0)), .val (.int (Int32.ofNat nf)), .val (.int (Int32.ofNat nt)), .val (.int bg), .val (.ref b7), .val (.int (Int32.ofNat (off + ks528.length))), .val (.int (Int32.ofNat off)), .val (.int (Int32.ofNat (off + ks528.length))), .val (.ref b537), .unset, .unset] [(.ref b615)]))
  refine own_go (fun t_ k_ => XS.astore A631.here hx rfl (hb hby at_626) rfl rfl (l' := #[.val (.int p0), .val (.int p1), .val (.long q2), .second, .val (.int p3), .val (.int (Int32.ofNat off)), .val (.int (Int32.ofNat nb)), .val (.int (if neg = true then (1 : Int32) else 0)), .val (.int (Int32.ofNat ni)), .val (.int (if pt = true then (1 : Int32) else 0)), .val (.int (Int32.ofNat nf)), .val (.int (Int32.ofNat nt)), .val (.int bg), .val (.ref b7), .val (.int (Int32.ofNat (off + ks528.length))), .val (.int (Int32.ofNat off)), .val (.int (Int32.ofNat (off + ks528.length))), .val (.ref b537), .val (.ref b615), .unset]) rfl k_) ?_
  show own_Go _ _ _ _ (T630.setTop (mkF m 628 #[.val (.int p0), .val (.int p1), .val (.long q2), .second, .val (.int p3), .val (.int (Int32.ofNat off)), .val (.int (Int32.ofNat nb)), .val (.int (if neg = true then (1 : Int32) else 0)), .val (.int (Int32.ofNat ni)), .val (.int (if pt = true then (1 : Int32) else 0)), .val (.int (Int32.ofNat nf)), .val (.int (Int32.ofNat nt)), .val (.int bg), .val (.ref b7), .val (.int (Int32.ofNat (off + ks528.length))), .val (.int (Int32.ofNat off)), .val (.int (Int32.ofNat (off + ks528.length))), .val (.ref b537), .val (.ref b615), .unset] []))
  refine own_go (fun t_ k_ => XS.aload A631.here hx rfl (hb hby at_628) rfl rfl k_) ?_
  show own_Go _ _ _ _ (T630.setTop (mkF m 630 #[.val (.int p0), .val (.int p1), .val (.long q2), .second, .val (.int p3), .val (.int (Int32.ofNat off)), .val (.int (Int32.ofNat nb)), .val (.int (if neg = true then (1 : Int32) else 0)), .val (.int (Int32.ofNat ni)), .val (.int (if pt = true then (1 : Int32) else 0)), .val (.int (Int32.ofNat nf)), .val (.int (Int32.ofNat nt)), .val (.int bg), .val (.ref b7), .val (.int (Int32.ofNat (off + ks528.length))), .val (.int (Int32.ofNat off)), .val (.int (Int32.ofNat (off + ks528.length))), .val (.ref b537), .val (.ref b615), .unset] [(.ref b615)]))
  refine own_go (fun t_ k_ => XS.iload A631.here hx rfl (hb hby at_630) rfl k_) ?_
  show own_Go _ _ _ _ (T630.setTop (mkF m 632 #[.val (.int p0), .val (.int p1), .val (.long q2), .second, .val (.int p3), .val (.int (Int32.ofNat off)), .val (.int (Int32.ofNat nb)), .val (.int (if neg = true then (1 : Int32) else 0)), .val (.int (Int32.ofNat ni)), .val (.int (if pt = true then (1 : Int32) else 0)), .val (.int (Int32.ofNat nf)), .val (.int (Int32.ofNat nt)), .val (.int bg), .val (.ref b7), .val (.int (Int32.ofNat (off + ks528.length))), .val (.int (Int32.ofNat off)), .val (.int (Int32.ofNat (off + ks528.length))), .val (.ref b537), .val (.ref b615), .unset] [(.int p3), (.ref b615)]))
  refine own_go (fun t_ k_ => XS.aload A631.here hx rfl (hb hby at_632) rfl rfl k_) ?_
  show own_Go _ _ _ _ (T630.setTop (mkF m 634 #[.val (.int p0), .val (.int p1), .val (.long q2), .second, .val (.int p3), .val (.int (Int32.ofNat off)), .val (.int (Int32.ofNat nb)), .val (.int (if neg = true then (1 : Int32) else 0)), .val (.int (Int32.ofNat ni)), .val (.int (if pt = true then (1 : Int32) else 0)), .val (.int (Int32.ofNat nf)), .val (.int (Int32.ofNat nt)), .val (.int bg), .val (.ref b7), .val (.int (Int32.ofNat (off + ks528.length))), .val (.int (Int32.ofNat off)), .val (.int (Int32.ofNat (off + ks528.length))), .val (.ref b537), .val (.ref b615), .unset] [(.ref b7), (.int p3), (.ref b615)]))
  refine own_go (fun t_ k_ => XS.iload A631.here hx rfl (hb hby at_634) rfl k_) ?_
  show own_Go _ _ _ _ (T630.setTop (mkF m 636 #[.val (.int p0), .val (.int p1), .val (.long q2), .second, .val (.int p3), .val (.int (Int32.ofNat off)), .val (.int (Int32.ofNat nb)), .val (.int (if neg = true then (1 : Int32) else 0)), .val (.int (Int32.ofNat ni)), .val (.int (if pt = true then (1 : Int32) else 0)), .val (.int (Int32.ofNat nf)), .val (.int (Int32.ofNat nt)), .val (.int bg), .val (.ref b7), .val (.int (Int32.ofNat (off + ks528.length))), .val (.int (Int32.ofNat off)), .val (.int (Int32.ofNat (off + ks528.length))), .val (.ref b537), .val (.ref b615), .unset] [(.int (Int32.ofNat off)), (.ref b7), (.int p3), (.ref b615)]))
  refine own_go (fun t_ k_ => XS.iload A631.here hx rfl (hb hby at_636) rfl k_) ?_
  show own_Go _ _ _ _ (T630.setTop (mkF m 638 #[.val (.int p0), .val (.int p1), .val (.long q2), .second, .val (.int p3), .val (.int (Int32.ofNat off)), .val (.int (Int32.ofNat nb)), .val (.int (if neg = true then (1 : Int32) else 0)), .val (.int (Int32.ofNat ni)), .val (.int (if pt = true then (1 : Int32) else 0)), .val (.int (Int32.ofNat nf)), .val (.int (Int32.ofNat nt)), .val (.int bg), .val (.ref b7), .val (.int (Int32.ofNat (off + ks528.length))), .val (.int (Int32.ofNat off)), .val (.int (Int32.ofNat (off + ks528.length))), .val (.ref b537), .val (.ref b615), .unset] [(.int (Int32.ofNat (off + ks528.length))), (.int (Int32.ofNat off)), (.ref b7), (.int p3), (.ref b615)]))
  refine own_callV A631 hx hZ (y := (⟨"com/example/indexloom/indexloom/data/DataLine", "set", "(I[BII)V"⟩ : MethodName)) (z := (⟨"com/example/indexloom/indexloom/data/DataLine", "set", "(I[BII)V"⟩ : MethodName)) hown (hw _ (List.mem_of_getElem? (i := 127) rfl)) (hw _ (List.mem_of_getElem? (i := 128) rfl)) (hw _ (List.mem_of_getElem? (i := 130) rfl)) (hw _ (List.mem_of_getElem? (i := 129) rfl)) (hw _ (List.mem_of_getElem? (i := 113) rfl)) (hw _ (List.mem_of_getElem? (i := 131) rfl)) (notFace_of_selects (args := #[]) (mvT hZ (hw _ (List.mem_of_getElem? (i := 130) rfl)))) (by decide) (b := b615) (argsL := [(.int p3), (.ref b7), (.int (Int32.ofNat off)), (.int (Int32.ofNat (off + ks528.length)))]) (rest := []) E651 (rm22 l Z a0 hw b615 p3 b7 off (off + ks528.length) b537 t602 t639 (22 : Int32) fb525 (fun _ => false) (own_blk off ks528) h632 n0 E651 F636 F642 F637 F638 g_b615 gt640 E647 F649 V650 V646 V643 (Ne.symm ne_b537_b615) (Ne.symm ne_t602_b615) (Ne.symm ne_b7_b615) ne_b615_t639 (Ne.symm ne_b537_t639) (Ne.symm ne_t602_t639) (Ne.symm ne_b7_t639) (by have : (22 : Int32).toInt = 22 := rfl; omega) (by omega) (own_clsK off _ _ I527) (by omega) HP1) 0 (by decide) (by decide) rfl (by rw [hml]; rfl) (lenOf pd__I_BII_V rfl) rfl (by show 2 * 0 + _ ≤ _; exact Nat.le_of_eq rfl) (hb hby at_638) (by decide) (by decide) (fun v655 T652 h654 A653 hQ656 => ?_)
  obtain ⟨rfl, K657, F658, F659, c660, V661, B662⟩ := hQ656
  have O663 : Old Z n0 h654 := O644.keep K657 (allS g_b615 (allS gt640 all0))
  have Z664 : n0 ≤ h654.size := Nat.le_trans Z645 K657.1
  have V665 : own_Arr Z h654 b7 .byte (22 : Int32) fb525 := V646.keep K657 (ninS ne_b7_b615 (ninS ne_b7_t639 nin0))
  have E666 : Exa Z h654 b537 "com/example/indexloom/indexloom/data/DataHeader" := E647.keep K657
  have Y667 : k575 ≤ h654.size := Nat.le_trans Y648 K657.1
  have F668 : Fld Z h654 b537 "com/example/indexloom/indexloom/data/DataHeader" "names" "[Ljava/lang/String;" (.ref t602) := F649.keep K657 (ninS ne_b537_b615 (ninS ne_b537_t639 nin0))
  have V669 : own_ArrR Z h654 t602 "java/lang/String" (1 : Int32) := V650.keep K657 (ninS ne_t602_b615 (ninS ne_t602_t639 nin0))
  have E670 : Exa Z h654 b615 "com/example/indexloom/indexloom/data/DataLine" := E651.keep K657
  show own_Go _ _ _ _ (T652.setTop (mkF m 641 #[.val (.int p0), .val (.int p1), .val (.long q2), .second, .val (.int p3), .val (.int (Int32.ofNat off)), .val (.int (Int32.ofNat nb)), .val (.int (if neg = true then (1 : Int32) else 0)), .val (.int (Int32.ofNat ni)), .val (.int (if pt = true then (1 : Int32) else 0)), .val (.int (Int32.ofNat nf)), .val (.int (Int32.ofNat nt)), .val (.int bg), .val (.ref b7), .val (.int (Int32.ofNat (off + ks528.length))), .val (.int (Int32.ofNat off)), .val (.int (Int32.ofNat (off + ks528.length))), .val (.ref b537), .val (.ref b615), .unset] []))
  refine own_go (fun t_ k_ => XS.iload A653.here hx rfl (hb hby at_641) rfl k_) ?_
  show own_Go _ _ _ _ (T652.setTop (mkF m 643 #[.val (.int p0), .val (.int p1), .val (.long q2), .second, .val (.int p3), .val (.int (Int32.ofNat off)), .val (.int (Int32.ofNat nb)), .val (.int (if neg = true then (1 : Int32) else 0)), .val (.int (Int32.ofNat ni)), .val (.int (if pt = true then (1 : Int32) else 0)), .val (.int (Int32.ofNat nf)), .val (.int (Int32.ofNat nt)), .val (.int bg), .val (.ref b7), .val (.int (Int32.ofNat (off + ks528.length))), .val (.int (Int32.ofNat off)), .val (.int (Int32.ofNat (off + ks528.length))), .val (.ref b537), .val (.ref b615), .unset] [(.int (if pt = true then (1 : Int32) else 0))]))
  have mg671 : ∀ t_, Steps p.tables e below (T652.setTop (mkF m 652 #[.val (.int p0), .val (.int p1), .val (.long q2), .second, .val (.int p3), .val (.int (Int32.ofNat off)), .val (.int (Int32.ofNat nb)), .val (.int (if neg = true then (1 : Int32) else 0)), .val (.int (Int32.ofNat ni)), .val (.int (if pt = true then (1 : Int32) else 0)), .val (.int (Int32.ofNat nf)), .val (.int (Int32.ofNat nt)), .val (.int bg), .val (.ref b7), .val (.int (Int32.ofNat (off + ks528.length))), .val (.int (Int32.ofNat off)), .val (.int (Int32.ofNat (off + ks528.length))), .val (.ref b537), .val (.ref b615), .unset] [(.int (if (if pt = true then (1 : Int32) else 0) = (0 : Int32) then (0 : Int32) else (Int32.ofNat nf)))])) t_ → Steps p.tables e below (T652.setTop (mkF m 643 #[.val (.int p0), .val (.int p1), .val (.long q2), .second, .val (.int p3), .val (.int (Int32.ofNat off)), .val (.int (Int32.ofNat nb)), .val (.int (if neg = true then (1 : Int32) else 0)), .val (.int (Int32.ofNat ni)), .val (.int (if pt = true then (1 : Int32) else 0)), .val (.int (Int32.ofNat nf)), .val (.int (Int32.ofNat nt)), .val (.int bg), .val (.ref b7), .val (.int (Int32.ofNat (off + ks528.length))), .val (.int (Int32.ofNat off)), .val (.int (Int32.ofNat (off + ks528.length))), .val (.ref b537), .val (.ref b615), .unset] [(.int (if pt = true then (1 : Int32) else 0))])) t_ := by
    intro t_ k_
    by_cases hm643_0 : (if pt = true then (1 : Int32) else 0) = (0 : Int32)
    ·
      simp only [if_pos hm643_0] at k_
      exact (XS.ifYes A653.here hx rfl (pc0 := 643) (pc' := 651) rfl (hb hby at_643) rfl ((if0 _ _).trans (teq hm643_0).1) (by decide) (by decide) (XS.iconst A653.here hx rfl (hb hby at_651) k_))
    ·
      simp only [if_neg hm643_0] at k_
      exact (XS.ifNo A653.here hx rfl (hb hby at_643) rfl ((if0 _ _).trans (feq hm643_0).1) (XS.iload A653.here hx rfl (hb hby at_646) rfl (XS.goto A653.here hx rfl (pc0 := 648) (pc' := 652) rfl (hb hby at_648) (by decide) (by decide) k_)))
  refine own_go mg671 ?_
  show own_Go _ _ _ _ (T652.setTop (mkF m 652 #[.val (.int p0), .val (.int p1), .val (.long q2), .second, .val (.int p3), .val (.int (Int32.ofNat off)), .val (.int (Int32.ofNat nb)), .val (.int (if neg = true then (1 : Int32) else 0)), .val (.int (Int32.ofNat ni)), .val (.int (if pt = true then (1 : Int32) else 0)), .val (.int (Int32.ofNat nf)), .val (.int (Int32.ofNat nt)), .val (.int bg), .val (.ref b7), .val (.int (Int32.ofNat (off + ks528.length))), .val (.int (Int32.ofNat off)), .val (.int (Int32.ofNat (off + ks528.length))), .val (.ref b537), .val (.ref b615), .unset] [(.int (if (if pt = true then (1 : Int32) else 0) = (0 : Int32) then (0 : Int32) else (Int32.ofNat nf)))]))
  refine own_go (fun t_ k_ => XS.istore A653.here hx rfl (hb hby at_652) rfl (l' := #[.val (.int p0), .val (.int p1), .val (.long q2), .second, .val (.int p3), .val (.int (Int32.ofNat off)), .val (.int (Int32.ofNat nb)), .val (.int (if neg = true then (1 : Int32) else 0)), .val (.int (Int32.ofNat ni)), .val (.int (if pt = true then (1 : Int32) else 0)), .val (.int (Int32.ofNat nf)), .val (.int (Int32.ofNat nt)), .val (.int bg), .val (.ref b7), .val (.int (Int32.ofNat (off + ks528.length))), .val (.int (Int32.ofNat off)), .val (.int (Int32.ofNat (off + ks528.length))), .val (.ref b537), .val (.ref b615), .val (.int (if (if pt = true then (1 : Int32) else 0) = (0 : Int32) then (0 : Int32) else (Int32.ofNat nf)))]) rfl k_) ?_
  show own_Go _ _ _ _ (T652.setTop (mkF m 654 #[.val (.int p0), .val (.int p1), .val (.long q2), .second, .val (.int p3), .val (.int (Int32.ofNat off)), .val (.int (Int32.ofNat nb)), .val (.int (if neg = true then (1 : Int32) else 0)), .val (.int (Int32.ofNat ni)), .val (.int (if pt = true then (1 : Int32) else 0)), .val (.int (Int32.ofNat nf)), .val (.int (Int32.ofNat nt)), .val (.int bg), .val (.ref b7), .val (.int (Int32.ofNat (off + ks528.length))), .val (.int (Int32.ofNat off)), .val (.int (Int32.ofNat (off + ks528.length))), .val (.ref b537), .val (.ref b615), .val (.int (if (if pt = true then (1 : Int32) else 0) = (0 : Int32) then (0 : Int32) else (Int32.ofNat nf)))] []))
  refine own_go (fun t_ k_ => XS.aload A653.here hx rfl (hb hby at_654) rfl rfl k_) ?_
  show own_Go _ _ _ _ (T652.setTop (mkF m 656 #[.val (.int p0), .val (.int p1), .val (.long q2), .second, .val (.int p3), .val (.int (Int32.ofNat off)), .val (.int (Int32.ofNat nb)), .val (.int (if neg = true then (1 : Int32) else 0)), .val (.int (Int32.ofNat ni)), .val (.int (if pt = true then (1 : Int32) else 0)), .val (.int (Int32.ofNat nf)), .val (.int (Int32.ofNat nt)), .val (.int bg), .val (.ref b7), .val (.int (Int32.ofNat (off + ks528.length))), .val (.int (Int32.ofNat off)), .val (.int (Int32.ofNat (off + ks528.length))), .val (.ref b537), .val (.ref b615), .val (.int (if (if pt = true then (1 : Int32) else 0) = (0 : Int32) then (0 : Int32) else (Int32.ofNat nf)))] [(.ref b615)]))
  refine own_go (fun t_ k_ => XS.iconst A653.here hx rfl (hb hby at_656) k_) ?_
  show own_Go _ _ _ _ (T652.setTop (mkF m 657 #[.val (.int p0), .val (.int p1), .val (.long q2), .second, .val (.int p3), .val (.int (Int32.ofNat off)), .val (.int (Int32.ofNat nb)), .val (.int (if neg = true then (1 : Int32) else 0)), .val (.int (Int32.ofNat ni)), .val (.int (if pt = true then (1 : Int32) else 0)), .val (.int (Int32.ofNat nf)), .val (.int (Int32.ofNat nt)), .val (.int bg), .val (.ref b7), .val (.int (Int32.ofNat (off + ks528.length))), .val (.int (Int32.ofNat off)), .val (.int (Int32.ofNat (off + ks528.length))), .val (.ref b537), .val (.ref b615), .val (.int (if (if pt = true then (1 : Int32) else 0) = (0 : Int32) then (0 : Int32) else (Int32.ofNat nf)))] [(.int (0 : Int32)), (.ref b615)]))
  refine own_callV A653 hx hZ (y := (⟨"com/example/indexloom/indexloom/data/DataLine", "scale", "(I)I"⟩ : MethodName)) (z := (⟨"com/example/indexloom/indexloom/data/DataLine", "scale", "(I)I"⟩ : MethodName)) hown (hw _ (List.mem_of_getElem? (i := 137) rfl)) (hw _ (List.mem_of_getElem? (i := 138) rfl)) (hw _ (List.mem_of_getElem? (i := 140) rfl)) (hw _ (List.mem_of_getElem? (i := 139) rfl)) (hw _ (List.mem_of_getElem? (i := 113) rfl)) (hw _ (List.mem_of_getElem? (i := 141) rfl)) (notFace_of_selects (args := #[]) (mvT hZ (hw _ (List.mem_of_getElem? (i := 140) rfl)))) (by decide) (b := b615) (argsL := [(.int (0 : Int32))]) (rest := []) E670 (rm23 l Z a0 hw n0 b615 t639 b7 c660 fb525 h654 E670 F658 V661 F659 V665 ((own_fields (fun _ => false) (own_blk off ks528) (off + ks528.length) (off + ks528.length - off + 1) off).getD 0 (0, 0)).1 ((own_fields (fun _ => false) (own_blk off ks528) (off + ks528.length) (off + ks528.length - off + 1) off).getD 0 (0, 0)).2 (by omega) (own_dotk off ks528) (fun i hs hi => own_dotK off _ _ I527 i (by omega) (by omega)) HPa (own_c0 HP3 B662).1 (own_c0 HP3 B662).2) 0 (by decide) (by decide) rfl (by rw [hml]; rfl) (lenOf pd__I_I rfl) rfl (by show 2 * 0 + _ ≤ _; exact Nat.le_of_eq rfl) (hb hby at_657) (by decide) (by decide) (fun v675 T672 h674 A673 hQ676 => ?_)
  obtain ⟨rfl, rfl⟩ := hQ676
  show own_Go _ _ _ _ (T672.setTop (mkF m 660 #[.val (.int p0), .val (.int p1), .val (.long q2), .second, .val (.int p3), .val (.int (Int32.ofNat off)), .val (.int (Int32.ofNat nb)), .val (.int (if neg = true then (1 : Int32) else 0)), .val (.int (Int32.ofNat ni)), .val (.int (if pt = true then (1 : Int32) else 0)), .val (.int (Int32.ofNat nf)), .val (.int (Int32.ofNat nt)), .val (.int bg), .val (.ref b7), .val (.int (Int32.ofNat (off + ks528.length))), .val (.int (Int32.ofNat off)), .val (.int (Int32.ofNat (off + ks528.length))), .val (.ref b537), .val (.ref b615), .val (.int (if (if pt = true then (1 : Int32) else 0) = (0 : Int32) then (0 : Int32) else (Int32.ofNat nf)))] [(.int (own_res (own_dotk off ks528) ((own_fields (fun _ => false) (own_blk off ks528) (off + ks528.length) (off + ks528.length - off + 1) off).getD 0 (0, 0)).1 ((own_fields (fun _ => false) (own_blk off ks528) (off + ks528.length) (off + ks528.length - off + 1) off).getD 0 (0, 0)).2 ((own_fields (fun _ => false) (own_blk off ks528) (off + ks528.length) (off + ks528.length - off + 1) off).getD 0 (0, 0)).2))]))
  refine own_go (fun t_ k_ => XS.iload A673.here hx rfl (hb hby at_660) rfl k_) ?_
  show own_Go _ _ _ _ (T672.setTop (mkF m 662 #[.val (.int p0), .val (.int p1), .val (.long q2), .second, .val (.int p3), .val (.int (Int32.ofNat off)), .val (.int (Int32.ofNat nb)), .val (.int (if neg = true then (1 : Int32) else 0)), .val (.int (Int32.ofNat ni)), .val (.int (if pt = true then (1 : Int32) else 0)), .val (.int (Int32.ofNat nf)), .val (.int (Int32.ofNat nt)), .val (.int bg), .val (.ref b7), .val (.int (Int32.ofNat (off + ks528.length))), .val (.int (Int32.ofNat off)), .val (.int (Int32.ofNat (off + ks528.length))), .val (.ref b537), .val (.ref b615), .val (.int (if (if pt = true then (1 : Int32) else 0) = (0 : Int32) then (0 : Int32) else (Int32.ofNat nf)))] [(.int (if (if pt = true then (1 : Int32) else 0) = (0 : Int32) then (0 : Int32) else (Int32.ofNat nf))), (.int (own_res (own_dotk off ks528) ((own_fields (fun _ => false) (own_blk off ks528) (off + ks528.length) (off + ks528.length - off + 1) off).getD 0 (0, 0)).1 ((own_fields (fun _ => false) (own_blk off ks528) (off + ks528.length) (off + ks528.length - off + 1) off).getD 0 (0, 0)).2 ((own_fields (fun _ => false) (own_blk off ks528) (off + ks528.length) (off + ks528.length - off + 1) off).getD 0 (0, 0)).2))]))
  have hc677 : (own_res (own_dotk off ks528) ((own_fields (fun _ => false) (own_blk off ks528) (off + ks528.length) (off + ks528.length - off + 1) off).getD 0 (0, 0)).1 ((own_fields (fun _ => false) (own_blk off ks528) (off + ks528.length) (off + ks528.length - off + 1) off).getD 0 (0, 0)).2 ((own_fields (fun _ => false) (own_blk off ks528) (off + ks528.length) (off + ks528.length - off + 1) off).getD 0 (0, 0)).2) = (if (if pt = true then (1 : Int32) else 0) = (0 : Int32) then (0 : Int32) else (Int32.ofNat nf)) := HP4
  refine own_go (fun t_ k_ => XS.icmpNo A673.here hx rfl (hb hby at_662) rfl (teq hc677).2 k_) ?_
  show own_Go _ _ _ _ (T672.setTop (mkF m 665 #[.val (.int p0), .val (.int p1), .val (.long q2), .second, .val (.int p3), .val (.int (Int32.ofNat off)), .val (.int (Int32.ofNat nb)), .val (.int (if neg = true then (1 : Int32) else 0)), .val (.int (Int32.ofNat ni)), .val (.int (if pt = true then (1 : Int32) else 0)), .val (.int (Int32.ofNat nf)), .val (.int (Int32.ofNat nt)), .val (.int bg), .val (.ref b7), .val (.int (Int32.ofNat (off + ks528.length))), .val (.int (Int32.ofNat off)), .val (.int (Int32.ofNat (off + ks528.length))), .val (.ref b537), .val (.ref b615), .val (.int (if (if pt = true then (1 : Int32) else 0) = (0 : Int32) then (0 : Int32) else (Int32.ofNat nf)))] []))
  refine own_go (fun t_ k_ => XS.iconst A673.here hx rfl (hb hby at_665) k_) ?_
  show own_Go _ _ _ _ (T672.setTop (mkF m 666 #[.val (.int p0), .val (.int p1), .val (.long q2), .second, .val (.int p3), .val (.int (Int32.ofNat off)), .val (.int (Int32.ofNat nb)), .val (.int (if neg = true then (1 : Int32) else 0)), .val (.int (Int32.ofNat ni)), .val (.int (if pt = true then (1 : Int32) else 0)), .val (.int (Int32.ofNat nf)), .val (.int (Int32.ofNat nt)), .val (.int bg), .val (.ref b7), .val (.int (Int32.ofNat (off + ks528.length))), .val (.int (Int32.ofNat off)), .val (.int (Int32.ofNat (off + ks528.length))), .val (.ref b537), .val (.ref b615), .val (.int (if (if pt = true then (1 : Int32) else 0) = (0 : Int32) then (0 : Int32) else (Int32.ofNat nf)))] [(.int (1 : Int32))]))
  refine own_go (fun t_ k_ => XS.goto A673.here hx rfl (pc0 := 666) (pc' := 670) rfl (hb hby at_666) (by decide) (by decide) k_) ?_
  show own_Go _ _ _ _ (T672.setTop (mkF m 670 #[.val (.int p0), .val (.int p1), .val (.long q2), .second, .val (.int p3), .val (.int (Int32.ofNat off)), .val (.int (Int32.ofNat nb)), .val (.int (if neg = true then (1 : Int32) else 0)), .val (.int (Int32.ofNat ni)), .val (.int (if pt = true then (1 : Int32) else 0)), .val (.int (Int32.ofNat nf)), .val (.int (Int32.ofNat nt)), .val (.int bg), .val (.ref b7), .val (.int (Int32.ofNat (off + ks528.length))), .val (.int (Int32.ofNat off)), .val (.int (Int32.ofNat (off + ks528.length))), .val (.ref b537), .val (.ref b615), .val (.int (if (if pt = true then (1 : Int32) else 0) = (0 : Int32) then (0 : Int32) else (Int32.ofNat nf)))] [(.int (1 : Int32))]))
  refine own_retNW A673 hx (t := .boolean) hret (by simp) hlk (by decide) (by decide) hS577 Y667 (hb hby at_670) ?_
  exact ⟨rfl, trivial⟩
set_option maxRecDepth 65536 in
set_option maxHeartbeats 40000000 in
theorem comes_1 {Post : Tables → Env → Array Value → State → Outcome → State → Prop} (hpost : ∀ tb e args s v u, (limb_1_1.after args s (.returned v) u = true ∧ limb_1_2.after args s (.returned v) u = true ∧ True) → ReturnedEndW s (.returned v) u (Jvm.fieldLocs frame_1_writes args s ++ Jvm.arrayLocs frame_1_arrays args s ++ Jvm.staticLocs frame_1_statics s) 32 2240 → Post tb e args s (.returned v) u) :
    ArmFor flags0 classFile x code maxLocals ret World_1 tables_1 room_1 Calls_1 rest_1 Pre_1 Post := by
  intro l hfl _ _ p e ha hc hk s m args below hf hA hF happ hP
  obtain ⟨hcalls, hrest, hpre⟩ := hP
  obtain ⟨-, -, -, hnamed, -, -, -, hat⟩ := (Spec.applies_iff hf).mp happ
  obtain ⟨hg, hn⟩ := and_e (Cond.before_iff.mp (show (Jvm.Cond.and given_1 narrow_1).before args s = true from hpre))
  obtain ⟨gc, gr⟩ := and_e hg
  obtain ⟨w0, w1, w2, w3, rfl⟩ : ∃ w0 w1 w2 w3 : Value, args = #[w0, w1, w2, w3] := by
    have hs : args.size = 4 := by simpa [Cond.value, given_1] using gc
    obtain ⟨L⟩ := args
    match L, hs with
    | [w0, w1, w2, w3], _ => exact ⟨w0, w1, w2, w3, rfl⟩
  have hw := fun d (hd : d ∈ tables_1) => atoms_spec (ws := Jvm.Cond.code x code maxLocals ret :: tables_1) hat d (List.mem_cons_of_mem _ hd)
  have hfit : Fit s := fun {y c} hc i hi => by
    obtain ⟨ha, rfl⟩ := Array.getElem?_eq_some_iff.mp hc
    have q := List.all_eq_true.mp ((Array.all_eq_true_iff_forall_mem.mp hF) _ (Array.getElem_mem ha)) i (List.mem_range.mpr hi)
    simpa [Array.getElem?_eq_getElem hi] using q
  obtain ⟨q0, gr0⟩ := and_e gr
  obtain ⟨i0, ei0⟩ := is_v q0
  obtain rfl : w0 = (.int i0) := Option.some.inj ei0
  obtain ⟨q1, gr1⟩ := and_e gr0
  obtain ⟨i1, ei1⟩ := is_v q1
  obtain rfl : w1 = (.int i1) := Option.some.inj ei1
  obtain ⟨q2, gr2⟩ := and_e gr1
  obtain ⟨i2, ei2⟩ := isL_v q2
  obtain rfl : w2 = (.long i2) := Option.some.inj ei2
  obtain ⟨i3, ei3⟩ := is_v gr2
  obtain rfl : w3 = (.int i3) := Option.some.inj ei3
  obtain ⟨hsets, hown0⟩ := atoms_of _ (rest_1_c_eq ▸ (show rest_1_c.before _ s = true from hrest))
  obtain ⟨u8, ev8⟩ := exa_v (Cond.before_iff.mp (hsets _ (List.mem_of_getElem? (i := 5) rfl)))
  have EU8 : Exa s s.heap u8 "sun/nio/cs/UTF_8" := Exa.start ev8 (Cond.before_iff.mp (hsets _ (List.mem_of_getElem? (i := 5) rfl)))
  have S_UTF_8 : Sta s s.heap "java/nio/charset/StandardCharsets" "UTF_8" "Ljava/nio/charset/Charset;" (.ref u8) := Sta.start ev8 (Or.inl (hsets _ (List.mem_of_getElem? (i := 1) rfl)))
  obtain ⟨u9, ev9⟩ := exa_v (Cond.before_iff.mp (hsets _ (List.mem_of_getElem? (i := 17) rfl)))
  obtain rfl : u9 = u8 := Value.ref.inj (Option.some.inj ((own_eqV (Cond.before_iff.mp (hsets _ (List.mem_of_getElem? (i := 4) rfl))) ev9).symm.trans ev8))
  have S_INSTANCE : Sta s s.heap "sun/nio/cs/UTF_8" "INSTANCE" "Lsun/nio/cs/UTF_8;" (.ref u9) := Sta.start ev9 (Or.inl (hsets _ (List.mem_of_getElem? (i := 3) rfl)))
  obtain ⟨z_C, e_C⟩ := is_v (Cond.before_iff.mp (hsets _ (List.mem_of_getElem? (i := 7) rfl)))
  have S_COMPACT_STRINGS : Sta s s.heap "java/lang/String" "COMPACT_STRINGS" "Z" (.int z_C) := Sta.start e_C (Or.inl (hsets _ (List.mem_of_getElem? (i := 6) rfl)))
  have hcw : Jvm.Lit.compactW.before _ s = true := (hsets _ (List.mem_of_getElem? (i := 8) rfl))
  have hz : ¬ (z_C = (0 : Int32)) := gotF (Cond.eq_ints e_C (Term.int_eval (0))) (not_v (Cond.before_iff.mp (hsets _ (List.mem_of_getElem? (i := 8) rfl))))
  obtain ⟨s_F, e_F, hr_F⟩ := isR_v (Cond.before_iff.mp (hsets _ (List.mem_of_getElem? (i := 14) rfl)))
  have S_SIOOBE_FORMATTER : Sta s s.heap "jdk/internal/util/Preconditions" "SIOOBE_FORMATTER" "Ljava/util/function/BiFunction;" s_F := Sta.start e_F (Or.inl (hsets _ (List.mem_of_getElem? (i := 13) rfl)))
  obtain ⟨n, o, h1, h2, h3, _, L, rfl, ⟨⟨rfl, hQ⟩, N⟩, hq⟩ := rm0 l s _ hw i0 i1 i2 i3 u9 z_C s_F s.heap s.heap.size (Old.start s) (Nat.le_refl _) hcw hcalls.1 (Nat.le_refl _) hz hr_F EU8 S_UTF_8 S_INSTANCE S_COMPACT_STRINGS S_SIOOBE_FORMATTER tables_1 p e ha hc hk s m _ below hf ((Spec.applies_iff_loose hf).mp happ).1 ⟨rfl, State.Warmed39.refl s, rfl, IB.start⟩ trivial
  refine ⟨n, _, h1, h2, h3, hpost _ _ _ _ _ _ ⟨Cond.after_iff.mpr rfl, Cond.after_iff.mpr (eq_i res_at (Term.int_eval (1)) rfl), trivial⟩ ⟨hq.1, hq.2.1, hq.2.2.1, (hq.2.2.2.sift fun y hy => Or.inr (N y hy)).mono (by decide) (by decide)⟩⟩
theorem main_1_1 : Claimed_1_1 := comes_1 fun _ _ _ _ _ _ h hF => ⟨h.1, hF⟩
theorem main_1_2 : Claimed_1_2 := comes_1 fun _ _ _ _ _ _ h hF => ⟨h.2.1, hF⟩
end Jvm.Pilot.@@N@@
namespace Jvm.Pilot.@@N@@
open Jvm Jvm.ClassFile Sem Op Lib Jvm.Free Jvm.Stand Jvm.Pilot.@@N@@.Jvm.D
/-! MADE BY PROGRAM (witnessworld.py) out of the Statement's table words and the real class files: 27 classes; the members and pool entries that the words name. The judged class is class 1, her method 1. -/
namespace start1
open Jvm.ClassFile
def u (s : String) : CpInfo := .utf8 (stringToUtf16 s)
/-- a pool by its gaps: so many unusable entries, then the entry; so many at the end -/
def gap : Nat → List CpInfo → List CpInfo
  | 0, r => r
  | n + 1, r => .unusable :: gap n r
def poolList (es : List (Nat × CpInfo)) (last : Nat) : List CpInfo := es.foldr (fun e r => gap e.1 (e.2 :: r)) (gap last [])
def pool (es : List (Nat × CpInfo)) (last : Nat) : Array CpInfo := ⟨poolList es last⟩
def fileOf (pool : Array CpInfo) (this : Nat) (attrs : Array Attribute := #[]) (ms : Array MethodInfo := #[]) (fl : Nat := 33) (sup : Nat := 0) (ifs : Array Nat := #[]) (fds : Array FieldInfo := #[]) : ClassFile where
  minorVersion := 0
  majorVersion := 65
  constantPool := pool
  accessFlags := fl
  thisClass := this
  superClass := sup
  interfaces := ifs
  fields := fds
  methods := ms
  attributes := attrs
def plain (name : String) (sup : Option ClassId) : Class where
  name := name
  kind := .ordinary
  loader := none
  accessFlags := 33
  super := sup
  interfaces := #[]
  cf := none
  fields := #[]
  methods := #[]
  instanceTypes := #[]
  staticTypes := #[]
  resolved := #[]
  callSites := []
  init := .initialized
  statics := none
  mirror := none

def pool0 : Array CpInfo := pool [(5, u "<init>"), (0, u "()V"), (1, .class_ 10), (1, u "java/lang/Object"), (85, u "clone"), (0, u "()Ljava/lang/Object;")] 26

def k0c0 : Code := { maxStack := 0, maxLocals := 1, code := object_method_1_code, exceptionTable := #[], attributes := #[] }
def k0m0 : Method := { name := "<init>", desc := "()V", sig := { parameters := [], returnType := none }, accessFlags := 1, code := some k0c0 }
def k0m1 : Method := { name := "clone", desc := "()Ljava/lang/Object;", sig := { parameters := [], returnType := some (.object "java/lang/Object") }, accessFlags := 260, code := none }
/-- java/lang/Object -/
def k0 : Class := { plain "java/lang/Object" none with
  accessFlags := 33
  interfaces := #[]
  cf := some (fileOf pool0 8 #[] #[{ accessFlags := 1, nameIndex := 5, descriptorIndex := 6, attributes := #[] }, { accessFlags := 260, nameIndex := 96, descriptorIndex := 97, attributes := #[] }] 33 0 #[] #[])
  fields := #[]
  methods := #[k0m0, k0m1]
  instanceTypes := #[]
  staticTypes := #[]
  resolved := Array.replicate 124 none
  statics := none }

def pool1 : Array CpInfo := pool [(2, .class_ 4), (1, u "java/lang/Object"), (0, u "<init>"), (0, u "()V"), (0, .methodref 8 9), (0, .class_ 10), (0, .nameAndType 11 12), (0, u "com/example/indexloom/indexloom/data/DataLineScalePinLaw"), (0, u "blank"), (0, u "(II)B"), (0, .methodref 8 14), (0, .nameAndType 15 16), (0, u "put"), (0, u "([BIZB)I"), (0, .methodref 8 18), (0, .nameAndType 19 20), (0, u "digit"), (0, u "(JI)B"), (0, .class_ 22), (0, u "com/example/indexloom/indexloom/data/DataHeader"), (0, .string 24), (0, u "f"), (0, .string 26), (0, u "c"), (0, .methodref 21 28), (0, .nameAndType 5 29), (0, u "(Ljava/lang/String;Ljava/lang/String;)V"), (0, .class_ 31), (0, u "com/example/indexloom/indexloom/data/DataLine"), (0, .methodref 30 33), (0, .nameAndType 5 34), (0, u "(Lcom/example/indexloom/indexloom/data/DataHeader;)V"), (0, .methodref 30 36), (0, .nameAndType 37 38), (0, u "set"), (0, u "(I[BII)V"), (0, .methodref 30 40), (0, .nameAndType 41 42), (0, u "scale"), (0, u "(I)I"), (0, .long 15), (1, .long 10), (3, u "law"), (0, u "(IIJI)Z")] 8

def k1m0 : Method := { name := "<init>", desc := "()V", sig := { parameters := [], returnType := none }, accessFlags := 1, code := none }
def k1c1 : Code := { maxStack := 6, maxLocals := 20, code := code, exceptionTable := #[], attributes := #[] }
def k1m1 : Method := { name := "law", desc := "(IIJI)Z", sig := { parameters := [.int, .int, .long, .int], returnType := some .boolean }, accessFlags := 9, code := some k1c1 }
def k1c2 : Code := { maxStack := 3, maxLocals := 4, code := method_3_code, exceptionTable := #[], attributes := #[] }
def k1m2 : Method := { name := "put", desc := "([BIZB)I", sig := { parameters := [(.array .byte), .int, .boolean, .byte], returnType := some .int }, accessFlags := 10, code := some k1c2 }
def k1c3 : Code := { maxStack := 3, maxLocals := 3, code := method_4_code, exceptionTable := #[], attributes := #[] }
def k1m3 : Method := { name := "blank", desc := "(II)B", sig := { parameters := [.int, .int], returnType := some .byte }, accessFlags := 10, code := some k1c3 }
def k1c4 : Code := { maxStack := 5, maxLocals := 3, code := method_5_code, exceptionTable := #[], attributes := #[] }
def k1m4 : Method := { name := "digit", desc := "(JI)B", sig := { parameters := [.long, .int], returnType := some .byte }, accessFlags := 10, code := some k1c4 }
/-- com/example/indexloom/indexloom/data/DataLineScalePinLaw -/
def k1 : Class := { plain "com/example/indexloom/indexloom/data/DataLineScalePinLaw" (some 0) with
  accessFlags := 49
  interfaces := #[]
  cf := some (fileOf pool1 8 #[] #[{ accessFlags := 1, nameIndex := 5, descriptorIndex := 6, attributes := #[] }, { accessFlags := 9, nameIndex := 49, descriptorIndex := 50, attributes := #[] }, { accessFlags := 10, nameIndex := 15, descriptorIndex := 16, attributes := #[] }, { accessFlags := 10, nameIndex := 11, descriptorIndex := 12, attributes := #[] }, { accessFlags := 10, nameIndex := 19, descriptorIndex := 20, attributes := #[] }] 49 2 #[] #[])
  fields := #[]
  methods := #[k1m0, k1m1, k1m2, k1m3, k1m4]
  instanceTypes := #[]
  staticTypes := #[]
  resolved := Array.replicate 59 none
  statics := none }

def pool2 : Array CpInfo := pool [(1, .methodref 2 3), (0, .class_ 4), (0, .nameAndType 5 6), (0, u "java/lang/Object"), (0, u "<init>"), (0, u "()V"), (0, .fieldref 8 9), (0, .class_ 10), (0, .nameAndType 11 12), (0, u "java/nio/charset/StandardCharsets"), (0, u "UTF_8"), (0, u "Ljava/nio/charset/Charset;"), (0, .methodref 14 15), (0, .class_ 16), (0, .nameAndType 17 18), (0, u "java/lang/String"), (0, u "getBytes"), (0, u "(Ljava/nio/charset/Charset;)[B"), (0, .methodref 20 21), (0, .class_ 22), (0, .nameAndType 23 24), (0, u "com/example/indexloom/indexloom/data/DataHeader"), (0, u "split"), (0, u "([BII[I)I"), (0, .fieldref 20 26), (0, .nameAndType 27 28), (0, u "file"), (0, u "Ljava/lang/String;"), (0, .fieldref 20 30), (0, .nameAndType 31 32), (0, u "names"), (0, u "[Ljava/lang/String;"), (0, .methodref 14 34), (0, .nameAndType 5 35), (0, u "([BIILjava/nio/charset/Charset;)V"), (52, .methodref 20 89), (0, .nameAndType 90 91), (0, u "isBlank"), (0, u "(B)Z"), (0, u "(Ljava/lang/String;Ljava/lang/String;)V"), (9, u "size"), (0, u "()I")] 34

def k2c0 : Code := { maxStack := 10, maxLocals := 6, code := prog_13_method_1_code, exceptionTable := #[], attributes := #[] }
def k2m0 : Method := { name := "<init>", desc := "(Ljava/lang/String;Ljava/lang/String;)V", sig := { parameters := [(.object "java/lang/String"), (.object "java/lang/String")], returnType := none }, accessFlags := 1, code := some k2c0 }
def k2c1 : Code := { maxStack := 1, maxLocals := 1, code := prog_13_method_3_code, exceptionTable := #[], attributes := #[] }
def k2m1 : Method := { name := "size", desc := "()I", sig := { parameters := [], returnType := some .int }, accessFlags := 1, code := some k2c1 }
def k2c2 : Code := { maxStack := 3, maxLocals := 10, code := prog_13_method_11_code, exceptionTable := #[], attributes := #[] }
def k2m2 : Method := { name := "split", desc := "([BII[I)I", sig := { parameters := [(.array .byte), .int, .int, (.array .int)], returnType := some .int }, accessFlags := 8, code := some k2c2 }
def k2c3 : Code := { maxStack := 2, maxLocals := 1, code := prog_13_method_12_code, exceptionTable := #[], attributes := #[] }
def k2m3 : Method := { name := "isBlank", desc := "(B)Z", sig := { parameters := [.byte], returnType := some .boolean }, accessFlags := 10, code := some k2c3 }
/-- com/example/indexloom/indexloom/data/DataHeader -/
def k2 : Class := { plain "com/example/indexloom/indexloom/data/DataHeader" (some 0) with
  accessFlags := 49
  interfaces := #[]
  cf := some (fileOf pool2 20 #[] #[{ accessFlags := 1, nameIndex := 5, descriptorIndex := 92, attributes := #[] }, { accessFlags := 1, nameIndex := 102, descriptorIndex := 103, attributes := #[] }, { accessFlags := 8, nameIndex := 23, descriptorIndex := 24, attributes := #[] }, { accessFlags := 10, nameIndex := 90, descriptorIndex := 91, attributes := #[] }] 49 2 #[] #[{ accessFlags := 18, nameIndex := 27, descriptorIndex := 28, attributes := #[] }, { accessFlags := 18, nameIndex := 31, descriptorIndex := 32, attributes := #[] }])
  fields := #[{ name := "file", type := (.object "java/lang/String"), accessFlags := 18, slot := 0, constantValue := 0 }, { name := "names", type := (.array (.object "java/lang/String")), accessFlags := 18, slot := 1, constantValue := 0 }]
  methods := #[k2m0, k2m1, k2m2, k2m3]
  instanceTypes := #[(.object "java/lang/String"), (.array (.object "java/lang/String"))]
  staticTypes := #[]
  resolved := Array.replicate 138 none
  statics := none }

def pool3 : Array CpInfo := pool [(1, .class_ 2), (0, u "java/io/Serializable"), (0, .class_ 4), (0, u "java/lang/Object")] 2

/-- java/io/Serializable -/
def k3 : Class := { plain "java/io/Serializable" (some 0) with
  accessFlags := 1537
  interfaces := #[]
  cf := some (fileOf pool3 1 #[] #[] 1537 3 #[] #[])
  fields := #[]
  methods := #[]
  instanceTypes := #[]
  staticTypes := #[]
  resolved := Array.replicate 7 none
  statics := none }

def pool4 : Array CpInfo := pool [(1, .class_ 2), (0, u "java/lang/Comparable"), (0, .class_ 4), (0, u "java/lang/Object")] 7

/-- java/lang/Comparable -/
def k4 : Class := { plain "java/lang/Comparable" (some 0) with
  accessFlags := 1537
  interfaces := #[]
  cf := some (fileOf pool4 1 #[] #[] 1537 3 #[] #[])
  fields := #[]
  methods := #[]
  instanceTypes := #[]
  staticTypes := #[]
  resolved := Array.replicate 12 none
  statics := none }

def pool5 : Array CpInfo := pool [(2, .class_ 4), (1, u "java/lang/CharSequence"), (42, .class_ 48), (0, u "java/lang/CharSequence$1CodePointIterator"), (10, .class_ 60), (0, u "java/lang/CharSequence$1CharIterator"), (5, .class_ 67), (0, u "java/lang/Object")] 63

/-- java/lang/CharSequence -/
def k5 : Class := { plain "java/lang/CharSequence" (some 0) with
  accessFlags := 1537
  interfaces := #[]
  cf := some (fileOf pool5 2 #[.nestMembers #[47, 59]] #[] 1537 66 #[] #[])
  fields := #[]
  methods := #[]
  instanceTypes := #[]
  staticTypes := #[]
  resolved := Array.replicate 131 none
  statics := none }

def pool6 : Array CpInfo := pool [(1, .class_ 2), (0, u "java/lang/constant/Constable"), (0, .class_ 4), (0, u "java/lang/Object")] 6

/-- java/lang/constant/Constable -/
def k6 : Class := { plain "java/lang/constant/Constable" (some 0) with
  accessFlags := 1537
  interfaces := #[]
  cf := some (fileOf pool6 1 #[] #[] 1537 3 #[] #[])
  fields := #[]
  methods := #[]
  instanceTypes := #[]
  staticTypes := #[]
  resolved := Array.replicate 11 none
  statics := none }

def pool7 : Array CpInfo := pool [(1, .class_ 2), (0, u "java/lang/constant/ConstantDesc"), (0, .class_ 4), (0, u "java/lang/Object")] 32

/-- java/lang/constant/ConstantDesc -/
def k7 : Class := { plain "java/lang/constant/ConstantDesc" (some 0) with
  accessFlags := 1537
  interfaces := #[]
  cf := some (fileOf pool7 1 #[] #[] 1537 3 #[] #[])
  fields := #[]
  methods := #[]
  instanceTypes := #[]
  staticTypes := #[]
  resolved := Array.replicate 37 none
  statics := none }

def pool8 : Array CpInfo := pool [(1, .methodref 2 3), (0, .class_ 4), (0, .nameAndType 5 6), (0, u "java/lang/Object"), (0, u "<init>"), (0, u "()V"), (2, .fieldref 10 11), (0, .class_ 12), (0, .nameAndType 13 14), (0, u "java/lang/String"), (0, u "value"), (0, u "[B"), (0, .fieldref 10 16), (0, .nameAndType 17 18), (0, u "coder"), (0, u "B"), (2, u "hash"), (0, u "I"), (2, u "hashIsZero"), (0, u "Z"), (7, .methodref 10 35), (0, .nameAndType 36 37), (0, u "checkBoundsOffCount"), (0, u "(III)I"), (0, .fieldref 10 39), (0, .nameAndType 40 26), (0, u "COMPACT_STRINGS"), (13, .methodref 55 56), (0, .class_ 57), (0, .nameAndType 58 59), (0, u "java/util/Arrays"), (0, u "copyOfRange"), (0, u "([BII)[B"), (15, .methodref 10 76), (0, .nameAndType 5 77), (0, u "(Ljava/nio/charset/Charset;[BII)V"), (0, .methodref 79 80), (0, .class_ 81), (0, .nameAndType 82 83), (0, u "java/util/Objects"), (0, u "requireNonNull"), (0, u "(Ljava/lang/Object;)Ljava/lang/Object;"), (0, .class_ 85), (0, u "java/nio/charset/Charset"), (0, .fieldref 87 88), (0, .class_ 89), (0, .nameAndType 90 91), (0, u "sun/nio/cs/UTF_8"), (0, u "INSTANCE"), (0, u "Lsun/nio/cs/UTF_8;"), (0, .methodref 93 94), (0, .class_ 95), (0, .nameAndType 96 97), (0, u "java/lang/StringCoding"), (0, u "countPositives"), (0, u "([BII)I"), (30, .methodref 93 129), (0, .nameAndType 130 131), (0, u "hasNegatives"), (0, u "([BII)Z"), (106, u "([BIILjava/nio/charset/Charset;)V"), (13, .methodref 10 253), (0, .nameAndType 254 255), (0, u "encodeUTF8"), (0, u "(B[BZ)[B"), (23, .methodref 280 281), (0, .class_ 14), (0, .nameAndType 282 283), (0, u "clone"), (0, u "()Ljava/lang/Object;"), (33, u "encode"), (17, .methodref 10 336), (0, .nameAndType 17 337), (0, u "()B"), (194, u "getBytes"), (2, .methodref 10 536), (0, .nameAndType 317 537), (0, u "(Ljava/nio/charset/Charset;B[B)[B"), (37, .class_ 576), (0, u "java/lang/CharSequence"), (22, u "CASE_INSENSITIVE_ORDER"), (0, u "Ljava/util/Comparator;"), (452, .fieldref 1054 1055), (0, .class_ 1056), (0, .nameAndType 1057 1058), (0, u "jdk/internal/util/Preconditions"), (0, u "SIOOBE_FORMATTER"), (0, u "Ljava/util/function/BiFunction;"), (5, u "(IIILjava/util/function/BiFunction;)I"), (0, .methodref 1054 1066), (0, .nameAndType 1067 1064), (0, u "checkFromIndexSize"), (33, u "serialPersistentFields"), (0, u "[Ljava/io/ObjectStreamField;"), (0, .class_ 1104), (0, u "java/lang/String$CaseInsensitiveComparator"), (1, .class_ 1107), (0, u "java/io/Serializable"), (0, .class_ 1109), (0, u "java/lang/Comparable"), (0, .class_ 1111), (0, u "java/lang/constant/Constable"), (0, .class_ 1113), (0, u "java/lang/constant/ConstantDesc"), (2, u "serialVersionUID"), (0, u "J"), (3, u "REPL"), (0, u "C"), (2, u "LATIN1"), (1, u "UTF16"), (117, u "(Ljava/nio/charset/Charset;)[B")] 205

def k8m0 : Method := { name := "<init>", desc := "()V", sig := { parameters := [], returnType := none }, accessFlags := 1, code := none }
def k8c1 : Code := { maxStack := 6, maxLocals := 5, code := jdk_42_method_10_code, exceptionTable := #[], attributes := #[] }
def k8m1 : Method := { name := "<init>", desc := "([BIILjava/nio/charset/Charset;)V", sig := { parameters := [(.array .byte), .int, .int, (.object "java/nio/charset/Charset")], returnType := none }, accessFlags := 1, code := some k8c1 }
def k8c2 : Code := { maxStack := 6, maxLocals := 11, code := jdk_42_method_11_code, exceptionTable := #[{ startPc := 800, endPc := 813, handlerPc := 816, catchType := 202 }], attributes := #[] }
def k8m2 : Method := { name := "<init>", desc := "(Ljava/nio/charset/Charset;[BII)V", sig := { parameters := [(.object "java/nio/charset/Charset"), (.array .byte), .int, .int], returnType := none }, accessFlags := 2, code := some k8c2 }
def k8c3 : Code := { maxStack := 4, maxLocals := 3, code := jdk_42_method_18_code, exceptionTable := #[], attributes := #[] }
def k8m3 : Method := { name := "encode", desc := "(Ljava/nio/charset/Charset;B[B)[B", sig := { parameters := [(.object "java/nio/charset/Charset"), .byte, (.array .byte)], returnType := some (.array .byte) }, accessFlags := 10, code := some k8c3 }
def k8c4 : Code := { maxStack := 5, maxLocals := 9, code := jdk_42_method_46_code, exceptionTable := #[], attributes := #[] }
def k8m4 : Method := { name := "encodeUTF8", desc := "(B[BZ)[B", sig := { parameters := [.byte, (.array .byte), .boolean], returnType := some (.array .byte) }, accessFlags := 10, code := some k8c4 }
def k8c5 : Code := { maxStack := 3, maxLocals := 2, code := jdk_42_method_64_code, exceptionTable := #[], attributes := #[] }
def k8m5 : Method := { name := "getBytes", desc := "(Ljava/nio/charset/Charset;)[B", sig := { parameters := [(.object "java/nio/charset/Charset")], returnType := some (.array .byte) }, accessFlags := 1, code := some k8c5 }
def k8c6 : Code := { maxStack := 1, maxLocals := 1, code := jdk_42_method_152_code, exceptionTable := #[], attributes := #[] }
def k8m6 : Method := { name := "coder", desc := "()B", sig := { parameters := [], returnType := some .byte }, accessFlags := 0, code := some k8c6 }
def k8c7 : Code := { maxStack := 4, maxLocals := 3, code := jdk_42_method_157_code, exceptionTable := #[], attributes := #[] }
def k8m7 : Method := { name := "checkBoundsOffCount", desc := "(III)I", sig := { parameters := [.int, .int, .int], returnType := some .int }, accessFlags := 8, code := some k8c7 }
/-- java/lang/String -/
def k8 : Class := { plain "java/lang/String" (some 0) with
  accessFlags := 49
  interfaces := #[3, 4, 5, 6, 7]
  cf := some (fileOf pool8 10 #[.nestMembers #[1103]] #[{ accessFlags := 1, nameIndex := 5, descriptorIndex := 6, attributes := #[] }, { accessFlags := 1, nameIndex := 5, descriptorIndex := 238, attributes := #[] }, { accessFlags := 2, nameIndex := 5, descriptorIndex := 77, attributes := #[] }, { accessFlags := 10, nameIndex := 317, descriptorIndex := 537, attributes := #[] }, { accessFlags := 10, nameIndex := 254, descriptorIndex := 255, attributes := #[] }, { accessFlags := 1, nameIndex := 532, descriptorIndex := 1245, attributes := #[] }, { accessFlags := 0, nameIndex := 17, descriptorIndex := 337, attributes := #[] }, { accessFlags := 8, nameIndex := 36, descriptorIndex := 37, attributes := #[] }] 49 2 #[1106, 1108, 575, 1110, 1112] #[{ accessFlags := 18, nameIndex := 13, descriptorIndex := 14, attributes := #[] }, { accessFlags := 18, nameIndex := 17, descriptorIndex := 18, attributes := #[] }, { accessFlags := 2, nameIndex := 21, descriptorIndex := 22, attributes := #[] }, { accessFlags := 2, nameIndex := 25, descriptorIndex := 26, attributes := #[] }, { accessFlags := 26, nameIndex := 1116, descriptorIndex := 1117, attributes := #[] }, { accessFlags := 24, nameIndex := 40, descriptorIndex := 26, attributes := #[] }, { accessFlags := 26, nameIndex := 1101, descriptorIndex := 1102, attributes := #[] }, { accessFlags := 26, nameIndex := 1121, descriptorIndex := 1122, attributes := #[] }, { accessFlags := 25, nameIndex := 599, descriptorIndex := 600, attributes := #[] }, { accessFlags := 24, nameIndex := 1125, descriptorIndex := 18, attributes := #[] }, { accessFlags := 24, nameIndex := 1127, descriptorIndex := 18, attributes := #[] }])
  fields := #[{ name := "value", type := (.array .byte), accessFlags := 18, slot := 0, constantValue := 0 }, { name := "coder", type := .byte, accessFlags := 18, slot := 1, constantValue := 0 }, { name := "hash", type := .int, accessFlags := 2, slot := 2, constantValue := 0 }, { name := "hashIsZero", type := .boolean, accessFlags := 2, slot := 3, constantValue := 0 }, { name := "serialVersionUID", type := .long, accessFlags := 26, slot := 0, constantValue := 0 }, { name := "COMPACT_STRINGS", type := .boolean, accessFlags := 24, slot := 1, constantValue := 0 }, { name := "serialPersistentFields", type := (.array (.object "java/io/ObjectStreamField")), accessFlags := 26, slot := 2, constantValue := 0 }, { name := "REPL", type := .char, accessFlags := 26, slot := 3, constantValue := 0 }, { name := "CASE_INSENSITIVE_ORDER", type := (.object "java/util/Comparator"), accessFlags := 25, slot := 4, constantValue := 0 }, { name := "LATIN1", type := .byte, accessFlags := 24, slot := 5, constantValue := 0 }, { name := "UTF16", type := .byte, accessFlags := 24, slot := 6, constantValue := 0 }]
  methods := #[k8m0, k8m1, k8m2, k8m3, k8m4, k8m5, k8m6, k8m7]
  instanceTypes := #[(.array .byte), .byte, .int, .boolean]
  staticTypes := #[.long, .boolean, (.array (.object "java/io/ObjectStreamField")), .char, (.object "java/util/Comparator"), .byte, .byte]
  resolved := Array.replicate 1451 none
  statics := some 0 }

def pool9 : Array CpInfo := pool [(2, .class_ 4), (1, u "java/lang/Object"), (0, u "<init>"), (0, u "()V"), (14, .class_ 23), (1, u "java/nio/charset/StandardCharsets"), (0, u "US_ASCII"), (0, u "Ljava/nio/charset/Charset;"), (7, u "ISO_8859_1"), (7, u "UTF_8"), (5, u "UTF_16BE"), (5, u "UTF_16LE"), (5, u "UTF_16")] 8

def k9m0 : Method := { name := "<init>", desc := "()V", sig := { parameters := [], returnType := none }, accessFlags := 2, code := none }
/-- java/nio/charset/StandardCharsets -/
def k9 : Class := { plain "java/nio/charset/StandardCharsets" (some 0) with
  accessFlags := 49
  interfaces := #[]
  cf := some (fileOf pool9 21 #[] #[{ accessFlags := 2, nameIndex := 5, descriptorIndex := 6, attributes := #[] }] 49 2 #[] #[{ accessFlags := 25, nameIndex := 24, descriptorIndex := 25, attributes := #[] }, { accessFlags := 25, nameIndex := 33, descriptorIndex := 25, attributes := #[] }, { accessFlags := 25, nameIndex := 41, descriptorIndex := 25, attributes := #[] }, { accessFlags := 25, nameIndex := 47, descriptorIndex := 25, attributes := #[] }, { accessFlags := 25, nameIndex := 53, descriptorIndex := 25, attributes := #[] }, { accessFlags := 25, nameIndex := 59, descriptorIndex := 25, attributes := #[] }])
  fields := #[{ name := "US_ASCII", type := (.object "java/nio/charset/Charset"), accessFlags := 25, slot := 0, constantValue := 0 }, { name := "ISO_8859_1", type := (.object "java/nio/charset/Charset"), accessFlags := 25, slot := 1, constantValue := 0 }, { name := "UTF_8", type := (.object "java/nio/charset/Charset"), accessFlags := 25, slot := 2, constantValue := 0 }, { name := "UTF_16BE", type := (.object "java/nio/charset/Charset"), accessFlags := 25, slot := 3, constantValue := 0 }, { name := "UTF_16LE", type := (.object "java/nio/charset/Charset"), accessFlags := 25, slot := 4, constantValue := 0 }, { name := "UTF_16", type := (.object "java/nio/charset/Charset"), accessFlags := 25, slot := 5, constantValue := 0 }]
  methods := #[k9m0]
  instanceTypes := #[]
  staticTypes := #[(.object "java/nio/charset/Charset"), (.object "java/nio/charset/Charset"), (.object "java/nio/charset/Charset"), (.object "java/nio/charset/Charset"), (.object "java/nio/charset/Charset"), (.object "java/nio/charset/Charset")]
  resolved := Array.replicate 68 none
  statics := some 1 }

def pool10 : Array CpInfo := pool [(18, .class_ 20), (1, u "java/nio/charset/Charset"), (0, u "cache1"), (0, u "[Ljava/lang/Object;"), (2, u "cache2"), (0, .class_ 27), (0, u "java/lang/Object"), (0, .class_ 29), (0, u "java/nio/charset/Charset$1"), (4, .class_ 36), (1, u "java/nio/charset/Charset$ThreadTrackHolder"), (21, .class_ 59), (0, u "java/nio/charset/Charset$2"), (11, .class_ 73), (1, u "java/nio/charset/Charset$ExtendedProviderHolder"), (22, u "standardProvider"), (0, u "Ljava/nio/charset/spi/CharsetProvider;"), (29, u "name"), (7, .class_ 136), (0, u "java/nio/charset/Charset$3"), (5, u "defaultCharset"), (0, u "Ljava/nio/charset/Charset;"), (14, u "zeroAliases"), (0, u "[Ljava/lang/String;"), (29, u "Ljava/lang/String;"), (2, u "aliases"), (2, u "aliasSet"), (0, u "Ljava/util/Set;"), (82, .class_ 280), (0, u "java/lang/Comparable"), (84, .class_ 366), (0, u "java/nio/charset/Charset$ExtendedProviderHolder$1")] 3

/-- java/nio/charset/Charset -/
def k10 : Class := { plain "java/nio/charset/Charset" (some 0) with
  accessFlags := 1057
  interfaces := #[4]
  cf := some (fileOf pool10 18 #[.nestMembers #[71, 365, 34, 135, 58, 28]] #[] 1057 26 #[279] #[{ accessFlags := 26, nameIndex := 96, descriptorIndex := 97, attributes := #[] }, { accessFlags := 26, nameIndex := 158, descriptorIndex := 159, attributes := #[] }, { accessFlags := 74, nameIndex := 21, descriptorIndex := 22, attributes := #[] }, { accessFlags := 74, nameIndex := 25, descriptorIndex := 22, attributes := #[] }, { accessFlags := 10, nameIndex := 142, descriptorIndex := 143, attributes := #[] }, { accessFlags := 18, nameIndex := 127, descriptorIndex := 189, attributes := #[] }, { accessFlags := 18, nameIndex := 192, descriptorIndex := 159, attributes := #[] }, { accessFlags := 2, nameIndex := 195, descriptorIndex := 196, attributes := #[] }])
  fields := #[{ name := "standardProvider", type := (.object "java/nio/charset/spi/CharsetProvider"), accessFlags := 26, slot := 0, constantValue := 0 }, { name := "zeroAliases", type := (.array (.object "java/lang/String")), accessFlags := 26, slot := 1, constantValue := 0 }, { name := "cache1", type := (.array (.object "java/lang/Object")), accessFlags := 74, slot := 2, constantValue := 0 }, { name := "cache2", type := (.array (.object "java/lang/Object")), accessFlags := 74, slot := 3, constantValue := 0 }, { name := "defaultCharset", type := (.object "java/nio/charset/Charset"), accessFlags := 10, slot := 4, constantValue := 0 }, { name := "name", type := (.object "java/lang/String"), accessFlags := 18, slot := 0, constantValue := 0 }, { name := "aliases", type := (.array (.object "java/lang/String")), accessFlags := 18, slot := 1, constantValue := 0 }, { name := "aliasSet", type := (.object "java/util/Set"), accessFlags := 2, slot := 2, constantValue := 0 }]
  methods := #[]
  instanceTypes := #[(.object "java/lang/String"), (.array (.object "java/lang/String")), (.object "java/util/Set")]
  staticTypes := #[(.object "java/nio/charset/spi/CharsetProvider"), (.array (.object "java/lang/String")), (.array (.object "java/lang/Object")), (.array (.object "java/lang/Object")), (.object "java/nio/charset/Charset")]
  resolved := Array.replicate 370 none
  statics := none }

def pool11 : Array CpInfo := pool [(1, .class_ 2), (0, u "sun/nio/cs/HistoricallyNamedCharset"), (0, .class_ 4), (0, u "java/lang/Object")] 4

/-- sun/nio/cs/HistoricallyNamedCharset -/
def k11 : Class := { plain "sun/nio/cs/HistoricallyNamedCharset" (some 0) with
  accessFlags := 1537
  interfaces := #[]
  cf := some (fileOf pool11 1 #[] #[] 1537 3 #[] #[])
  fields := #[]
  methods := #[]
  instanceTypes := #[]
  staticTypes := #[]
  resolved := Array.replicate 9 none
  statics := none }

def pool12 : Array CpInfo := pool [(2, .class_ 4), (1, u "java/nio/charset/Charset"), (130, .class_ 136), (0, u "sun/nio/cs/Unicode"), (0, .class_ 138), (0, u "sun/nio/cs/HistoricallyNamedCharset")] 15

/-- sun/nio/cs/Unicode -/
def k12 : Class := { plain "sun/nio/cs/Unicode" (some 10) with
  accessFlags := 1056
  interfaces := #[11]
  cf := some (fileOf pool12 135 #[] #[] 1056 2 #[137] #[])
  fields := #[]
  methods := #[]
  instanceTypes := #[(.object "java/lang/String"), (.array (.object "java/lang/String")), (.object "java/util/Set")]
  staticTypes := #[]
  resolved := Array.replicate 154 none
  statics := none }

def pool13 : Array CpInfo := pool [(10, .class_ 12), (1, u "sun/nio/cs/Unicode"), (0, u "<init>"), (3, .class_ 18), (0, u "sun/nio/cs/UTF_8$Decoder"), (3, .class_ 23), (0, u "sun/nio/cs/UTF_8$Encoder"), (15, .class_ 40), (0, u "sun/nio/cs/UTF_8"), (2, u "()V"), (2, u "INSTANCE"), (0, u "Lsun/nio/cs/UTF_8;"), (8, u "JLA"), (0, u "Ljdk/internal/access/JavaLangAccess;")] 26

def k13m0 : Method := { name := "<init>", desc := "()V", sig := { parameters := [], returnType := none }, accessFlags := 1, code := none }
/-- sun/nio/cs/UTF_8 -/
def k13 : Class := { plain "sun/nio/cs/UTF_8" (some 12) with
  accessFlags := 49
  interfaces := #[]
  cf := some (fileOf pool13 39 #[.nestMembers #[22, 17]] #[{ accessFlags := 1, nameIndex := 13, descriptorIndex := 43, attributes := #[] }] 49 10 #[] #[{ accessFlags := 25, nameIndex := 46, descriptorIndex := 47, attributes := #[] }, { accessFlags := 26, nameIndex := 56, descriptorIndex := 57, attributes := #[] }])
  fields := #[{ name := "INSTANCE", type := (.object "sun/nio/cs/UTF_8"), accessFlags := 25, slot := 0, constantValue := 0 }, { name := "JLA", type := (.object "jdk/internal/access/JavaLangAccess"), accessFlags := 26, slot := 1, constantValue := 0 }]
  methods := #[k13m0]
  instanceTypes := #[(.object "java/lang/String"), (.array (.object "java/lang/String")), (.object "java/util/Set")]
  staticTypes := #[(.object "sun/nio/cs/UTF_8"), (.object "jdk/internal/access/JavaLangAccess")]
  resolved := Array.replicate 84 none
  statics := some 2 }

def pool14 : Array CpInfo := pool [(2, .class_ 4), (1, u "java/lang/Object"), (0, u "<init>"), (0, u "()V"), (0, .methodref 8 9), (0, .class_ 10), (0, .nameAndType 11 12), (0, u "java/lang/StringCoding"), (0, u "countPositives"), (0, u "([BII)I"), (11, u "hasNegatives"), (0, u "([BII)Z")] 23

def k14m0 : Method := { name := "<init>", desc := "()V", sig := { parameters := [], returnType := none }, accessFlags := 2, code := none }
def k14c1 : Code := { maxStack := 3, maxLocals := 3, code := jdk_123_method_2_code, exceptionTable := #[], attributes := #[] }
def k14m1 : Method := { name := "hasNegatives", desc := "([BII)Z", sig := { parameters := [(.array .byte), .int, .int], returnType := some .boolean }, accessFlags := 9, code := some k14c1 }
def k14c2 : Code := { maxStack := 2, maxLocals := 5, code := jdk_123_method_3_code, exceptionTable := #[], attributes := #[] }
def k14m2 : Method := { name := "countPositives", desc := "([BII)I", sig := { parameters := [(.array .byte), .int, .int], returnType := some .int }, accessFlags := 9, code := some k14c2 }
/-- java/lang/StringCoding -/
def k14 : Class := { plain "java/lang/StringCoding" (some 0) with
  accessFlags := 32
  interfaces := #[]
  cf := some (fileOf pool14 8 #[] #[{ accessFlags := 2, nameIndex := 5, descriptorIndex := 6, attributes := #[] }, { accessFlags := 9, nameIndex := 24, descriptorIndex := 25, attributes := #[] }, { accessFlags := 9, nameIndex := 11, descriptorIndex := 12, attributes := #[] }] 32 2 #[] #[])
  fields := #[]
  methods := #[k14m0, k14m1, k14m2]
  instanceTypes := #[]
  staticTypes := #[]
  resolved := Array.replicate 49 none
  statics := none }

def pool15 : Array CpInfo := pool [(1, .class_ 2), (0, u "java/lang/Cloneable"), (0, .class_ 4), (0, u "java/lang/Object")] 2

/-- java/lang/Cloneable -/
def k15 : Class := { plain "java/lang/Cloneable" (some 0) with
  accessFlags := 1537
  interfaces := #[]
  cf := some (fileOf pool15 1 #[] #[] 1537 3 #[] #[])
  fields := #[]
  methods := #[]
  instanceTypes := #[]
  staticTypes := #[]
  resolved := Array.replicate 7 none
  statics := none }

def pool16 : Array CpInfo := pool [(2, .class_ 4), (1, u "java/lang/Object"), (0, u "<init>"), (0, u "()V"), (35, .class_ 44), (1, u "java/util/Objects"), (0, u "requireNonNull"), (0, u "(Ljava/lang/Object;)Ljava/lang/Object;")] 137

def k16m0 : Method := { name := "<init>", desc := "()V", sig := { parameters := [], returnType := none }, accessFlags := 2, code := none }
def k16c1 : Code := { maxStack := 2, maxLocals := 1, code := jdk_31_method_10_code, exceptionTable := #[], attributes := #[] }
def k16m1 : Method := { name := "requireNonNull", desc := "(Ljava/lang/Object;)Ljava/lang/Object;", sig := { parameters := [(.object "java/lang/Object")], returnType := some (.object "java/lang/Object") }, accessFlags := 9, code := some k16c1 }
/-- java/util/Objects -/
def k16 : Class := { plain "java/util/Objects" (some 0) with
  accessFlags := 49
  interfaces := #[]
  cf := some (fileOf pool16 42 #[] #[{ accessFlags := 2, nameIndex := 5, descriptorIndex := 6, attributes := #[] }, { accessFlags := 9, nameIndex := 45, descriptorIndex := 46, attributes := #[] }] 49 2 #[] #[])
  fields := #[]
  methods := #[k16m0, k16m1]
  instanceTypes := #[]
  staticTypes := #[]
  resolved := Array.replicate 184 none
  statics := none }

def pool17 : Array CpInfo := pool [(2, .class_ 4), (1, u "java/lang/Object"), (0, u "<init>"), (0, u "()V"), (17, .class_ 26), (1, u "jdk/internal/util/Preconditions"), (22, u "checkFromIndexSize"), (5, .class_ 56), (0, u "jdk/internal/util/Preconditions$4"), (57, .class_ 115), (0, u "jdk/internal/util/Preconditions$1"), (7, u "SIOOBE_FORMATTER"), (0, u "Ljava/util/function/BiFunction;"), (0, .class_ 126), (0, u "jdk/internal/util/Preconditions$2"), (3, u "AIOOBE_FORMATTER"), (0, .class_ 132), (0, u "jdk/internal/util/Preconditions$3"), (3, u "IOOBE_FORMATTER"), (46, u "(IIILjava/util/function/BiFunction;)I")] 10

def k17m0 : Method := { name := "<init>", desc := "()V", sig := { parameters := [], returnType := none }, accessFlags := 1, code := none }
def k17c1 : Code := { maxStack := 4, maxLocals := 4, code := jdk_41_method_13_code, exceptionTable := #[], attributes := #[] }
def k17m1 : Method := { name := "checkFromIndexSize", desc := "(IIILjava/util/function/BiFunction;)I", sig := { parameters := [.int, .int, .int, (.object "java/util/function/BiFunction")], returnType := some .int }, accessFlags := 9, code := some k17c1 }
/-- jdk/internal/util/Preconditions -/
def k17 : Class := { plain "jdk/internal/util/Preconditions" (some 0) with
  accessFlags := 33
  interfaces := #[]
  cf := some (fileOf pool17 24 #[.nestMembers #[55, 131, 125, 114]] #[{ accessFlags := 1, nameIndex := 5, descriptorIndex := 6, attributes := #[] }, { accessFlags := 9, nameIndex := 49, descriptorIndex := 183, attributes := #[] }] 33 2 #[] #[{ accessFlags := 25, nameIndex := 123, descriptorIndex := 124, attributes := #[] }, { accessFlags := 25, nameIndex := 130, descriptorIndex := 124, attributes := #[] }, { accessFlags := 25, nameIndex := 136, descriptorIndex := 124, attributes := #[] }])
  fields := #[{ name := "SIOOBE_FORMATTER", type := (.object "java/util/function/BiFunction"), accessFlags := 25, slot := 0, constantValue := 0 }, { name := "AIOOBE_FORMATTER", type := (.object "java/util/function/BiFunction"), accessFlags := 25, slot := 1, constantValue := 0 }, { name := "IOOBE_FORMATTER", type := (.object "java/util/function/BiFunction"), accessFlags := 25, slot := 2, constantValue := 0 }]
  methods := #[k17m0, k17m1]
  instanceTypes := #[]
  staticTypes := #[(.object "java/util/function/BiFunction"), (.object "java/util/function/BiFunction"), (.object "java/util/function/BiFunction")]
  resolved := Array.replicate 194 none
  statics := some 3 }

def pool18 : Array CpInfo := pool [(2, .class_ 4), (1, u "java/lang/Object"), (0, u "<init>"), (0, u "()V"), (7, .class_ 16), (1, u "java/util/Arrays"), (57, .class_ 76), (1, u "java/util/Arrays$NaturalOrder"), (32, u "()Ljava/lang/Object;"), (3, .class_ 115), (1, u "java/util/Arrays$LegacyMergeSort"), (1, u "Z"), (10, .nameAndType 129 109), (0, u "clone"), (9, u "copyOfRange"), (170, .methodref 311 128), (0, .class_ 312), (0, u "[B"), (29, u "([BII)[B"), (32, .class_ 376), (0, u "java/util/Arrays$ArrayList"), (68, u "$assertionsDisabled"), (269, u "MIN_ARRAY_SORT_GRAN"), (0, u "I"), (2, u "INSERTIONSORT_THRESHOLD"), (255, .class_ 976), (0, u "java/util/Arrays$ArrayItr")] 52

def k18m0 : Method := { name := "<init>", desc := "()V", sig := { parameters := [], returnType := none }, accessFlags := 2, code := none }
def k18c1 : Code := { maxStack := 3, maxLocals := 3, code := jdk_65_method_132_code, exceptionTable := #[], attributes := #[] }
def k18m1 : Method := { name := "copyOfRange", desc := "([BII)[B", sig := { parameters := [(.array .byte), .int, .int], returnType := some (.array .byte) }, accessFlags := 9, code := some k18c1 }
/-- java/util/Arrays -/
def k18 : Class := { plain "java/util/Arrays" (some 0) with
  accessFlags := 49
  interfaces := #[]
  cf := some (fileOf pool18 14 #[.nestMembers #[975, 375, 113, 74]] #[{ accessFlags := 2, nameIndex := 5, descriptorIndex := 6, attributes := #[] }, { accessFlags := 9, nameIndex := 139, descriptorIndex := 342, attributes := #[] }] 49 2 #[] #[{ accessFlags := 26, nameIndex := 715, descriptorIndex := 716, attributes := #[] }, { accessFlags := 26, nameIndex := 719, descriptorIndex := 716, attributes := #[] }, { accessFlags := 4120, nameIndex := 445, descriptorIndex := 117, attributes := #[] }])
  fields := #[{ name := "MIN_ARRAY_SORT_GRAN", type := .int, accessFlags := 26, slot := 0, constantValue := 0 }, { name := "INSERTIONSORT_THRESHOLD", type := .int, accessFlags := 26, slot := 1, constantValue := 0 }, { name := "$assertionsDisabled", type := .boolean, accessFlags := 4120, slot := 2, constantValue := 0 }]
  methods := #[k18m0, k18m1]
  instanceTypes := #[]
  staticTypes := #[.int, .int, .boolean]
  resolved := Array.replicate 1029 none
  statics := none }

def pool19 : Array CpInfo := pool [(3, .methodref 4 5), (0, .class_ 6), (0, .nameAndType 7 8), (0, u "java/lang/Object"), (0, u "<init>"), (0, u "()V"), (0, .fieldref 10 11), (0, .class_ 12), (0, .nameAndType 13 14), (0, u "com/example/indexloom/indexloom/data/DataLine"), (0, u "header"), (0, u "Lcom/example/indexloom/indexloom/data/DataHeader;"), (0, .methodref 16 17), (0, .class_ 18), (0, .nameAndType 19 20), (0, u "com/example/indexloom/indexloom/data/DataHeader"), (0, u "size"), (0, u "()I"), (0, .fieldref 10 22), (0, .nameAndType 23 24), (0, u "bounds"), (0, u "[I"), (0, .methodref 16 26), (0, .nameAndType 27 28), (0, u "split"), (0, u "([BII[I)I"), (4, .fieldref 10 34), (0, .nameAndType 35 36), (0, u "number"), (0, u "I"), (0, .fieldref 10 38), (0, .nameAndType 39 40), (0, u "bytes"), (0, u "[B"), (0, .methodref 10 42), (0, .nameAndType 43 44), (0, u "start"), (0, u "(I)I"), (0, .methodref 10 46), (0, .nameAndType 47 44), (0, u "end"), (35, u "scale"), (32, u "DATE"), (0, u "Ljava/lang/String;"), (1, u "DECIMAL"), (0, u "WIDE"), (0, u "J"), (0, u "LONG_DIGITS"), (1, u "(Lcom/example/indexloom/indexloom/data/DataHeader;)V"), (2, u "set"), (0, u "(I[BII)V")] 19

def k19c0 : Code := { maxStack := 3, maxLocals := 2, code := prog_14_method_1_code, exceptionTable := #[], attributes := #[] }
def k19m0 : Method := { name := "<init>", desc := "(Lcom/example/indexloom/indexloom/data/DataHeader;)V", sig := { parameters := [(.object "com/example/indexloom/indexloom/data/DataHeader")], returnType := none }, accessFlags := 0, code := some k19c0 }
def k19c1 : Code := { maxStack := 4, maxLocals := 6, code := prog_14_method_2_code, exceptionTable := #[], attributes := #[] }
def k19m1 : Method := { name := "set", desc := "(I[BII)V", sig := { parameters := [.int, (.array .byte), .int, .int], returnType := none }, accessFlags := 0, code := some k19c1 }
def k19c2 : Code := { maxStack := 3, maxLocals := 5, code := prog_14_method_10_code, exceptionTable := #[], attributes := #[] }
def k19m2 : Method := { name := "scale", desc := "(I)I", sig := { parameters := [.int], returnType := some .int }, accessFlags := 0, code := some k19c2 }
def k19c3 : Code := { maxStack := 3, maxLocals := 2, code := prog_14_method_15_code, exceptionTable := #[], attributes := #[] }
def k19m3 : Method := { name := "start", desc := "(I)I", sig := { parameters := [.int], returnType := some .int }, accessFlags := 2, code := some k19c3 }
def k19c4 : Code := { maxStack := 3, maxLocals := 2, code := prog_14_method_16_code, exceptionTable := #[], attributes := #[] }
def k19m4 : Method := { name := "end", desc := "(I)I", sig := { parameters := [.int], returnType := some .int }, accessFlags := 2, code := some k19c4 }
/-- com/example/indexloom/indexloom/data/DataLine -/
def k19 : Class := { plain "com/example/indexloom/indexloom/data/DataLine" (some 0) with
  accessFlags := 49
  interfaces := #[]
  cf := some (fileOf pool19 10 #[] #[{ accessFlags := 0, nameIndex := 7, descriptorIndex := 124, attributes := #[] }, { accessFlags := 0, nameIndex := 127, descriptorIndex := 128, attributes := #[] }, { accessFlags := 0, nameIndex := 83, descriptorIndex := 44, attributes := #[] }, { accessFlags := 2, nameIndex := 43, descriptorIndex := 44, attributes := #[] }, { accessFlags := 2, nameIndex := 47, descriptorIndex := 44, attributes := #[] }] 49 4 #[] #[{ accessFlags := 26, nameIndex := 116, descriptorIndex := 117, attributes := #[] }, { accessFlags := 26, nameIndex := 119, descriptorIndex := 117, attributes := #[] }, { accessFlags := 24, nameIndex := 120, descriptorIndex := 121, attributes := #[] }, { accessFlags := 26, nameIndex := 122, descriptorIndex := 36, attributes := #[] }, { accessFlags := 18, nameIndex := 13, descriptorIndex := 14, attributes := #[] }, { accessFlags := 18, nameIndex := 23, descriptorIndex := 24, attributes := #[] }, { accessFlags := 2, nameIndex := 35, descriptorIndex := 36, attributes := #[] }, { accessFlags := 2, nameIndex := 39, descriptorIndex := 40, attributes := #[] }])
  fields := #[{ name := "DATE", type := (.object "java/lang/String"), accessFlags := 26, slot := 0, constantValue := 0 }, { name := "DECIMAL", type := (.object "java/lang/String"), accessFlags := 26, slot := 1, constantValue := 0 }, { name := "WIDE", type := .long, accessFlags := 24, slot := 2, constantValue := 0 }, { name := "LONG_DIGITS", type := .int, accessFlags := 26, slot := 3, constantValue := 0 }, { name := "header", type := (.object "com/example/indexloom/indexloom/data/DataHeader"), accessFlags := 18, slot := 0, constantValue := 0 }, { name := "bounds", type := (.array .int), accessFlags := 18, slot := 1, constantValue := 0 }, { name := "number", type := .int, accessFlags := 2, slot := 2, constantValue := 0 }, { name := "bytes", type := (.array .byte), accessFlags := 2, slot := 3, constantValue := 0 }]
  methods := #[k19m0, k19m1, k19m2, k19m3, k19m4]
  instanceTypes := #[(.object "com/example/indexloom/indexloom/data/DataHeader"), (.array .int), .int, (.array .byte)]
  staticTypes := #[(.object "java/lang/String"), (.object "java/lang/String"), .long, .int]
  resolved := Array.replicate 148 none
  statics := none }

def pool20 : Array CpInfo := pool [(4, .class_ 6), (1, u "java/lang/Object"), (0, u "<init>"), (0, u "()V"), (5, .class_ 16), (1, u "java/lang/StringLatin1"), (104, u "$assertionsDisabled"), (0, u "Z"), (98, .class_ 223), (1, u "java/lang/StringLatin1$LinesSpliterator"), (166, .class_ 391), (0, u "java/lang/StringLatin1$CharsSpliterator")] 3

def k20m0 : Method := { name := "<init>", desc := "()V", sig := { parameters := [], returnType := none }, accessFlags := 0, code := none }
/-- java/lang/StringLatin1 -/
def k20 : Class := { plain "java/lang/StringLatin1" (some 0) with
  accessFlags := 48
  interfaces := #[]
  cf := some (fileOf pool20 14 #[.nestMembers #[390, 221]] #[{ accessFlags := 0, nameIndex := 7, descriptorIndex := 8, attributes := #[] }] 48 4 #[] #[{ accessFlags := 4120, nameIndex := 121, descriptorIndex := 122, attributes := #[] }])
  fields := #[{ name := "$assertionsDisabled", type := .boolean, accessFlags := 4120, slot := 0, constantValue := 0 }]
  methods := #[k20m0]
  instanceTypes := #[]
  staticTypes := #[.boolean]
  resolved := Array.replicate 395 none
  statics := none }

def pool21 : Array CpInfo := pool [(9, u "<init>"), (6, .class_ 18), (1, u "java/lang/Object"), (0, u "()V"), (1, .class_ 23), (1, u "jdk/internal/util/ArraysSupport"), (0, u "LOG2_ARRAY_LONG_INDEX_SCALE"), (0, u "I"), (2, u "U"), (0, u "Ljdk/internal/misc/Unsafe;"), (8, u "BIG_ENDIAN"), (0, u "Z"), (8, u "LOG2_BYTE_BIT_SIZE"), (4, u "LOG2_ARRAY_INT_INDEX_SCALE"), (54, u "JLA"), (0, u "Ljdk/internal/access/JavaLangAccess;"), (11, u "LOG2_ARRAY_BOOLEAN_INDEX_SCALE"), (9, u "LOG2_ARRAY_BYTE_INDEX_SCALE"), (5, u "LOG2_ARRAY_CHAR_INDEX_SCALE"), (5, u "LOG2_ARRAY_SHORT_INDEX_SCALE"), (18, u "LOG2_ARRAY_FLOAT_INDEX_SCALE"), (24, u "LOG2_ARRAY_DOUBLE_INDEX_SCALE"), (89, u "T_BOOLEAN"), (2, u "T_CHAR"), (1, u "T_FLOAT"), (1, u "T_DOUBLE"), (1, u "T_BYTE"), (1, u "T_SHORT"), (1, u "T_INT"), (1, u "T_LONG"), (1, u "SOFT_MAX_ARRAY_LENGTH")] 83

def k21m0 : Method := { name := "<init>", desc := "()V", sig := { parameters := [], returnType := none }, accessFlags := 2, code := none }
/-- jdk/internal/util/ArraysSupport -/
def k21 : Class := { plain "jdk/internal/util/ArraysSupport" (some 0) with
  accessFlags := 33
  interfaces := #[]
  cf := some (fileOf pool21 21 #[] #[{ accessFlags := 2, nameIndex := 9, descriptorIndex := 19, attributes := #[] }] 33 16 #[] #[{ accessFlags := 24, nameIndex := 28, descriptorIndex := 29, attributes := #[] }, { accessFlags := 26, nameIndex := 38, descriptorIndex := 39, attributes := #[] }, { accessFlags := 25, nameIndex := 121, descriptorIndex := 25, attributes := #[] }, { accessFlags := 25, nameIndex := 131, descriptorIndex := 25, attributes := #[] }, { accessFlags := 25, nameIndex := 137, descriptorIndex := 25, attributes := #[] }, { accessFlags := 25, nameIndex := 143, descriptorIndex := 25, attributes := #[] }, { accessFlags := 25, nameIndex := 53, descriptorIndex := 25, attributes := #[] }, { accessFlags := 25, nameIndex := 24, descriptorIndex := 25, attributes := #[] }, { accessFlags := 25, nameIndex := 162, descriptorIndex := 25, attributes := #[] }, { accessFlags := 25, nameIndex := 187, descriptorIndex := 25, attributes := #[] }, { accessFlags := 26, nameIndex := 48, descriptorIndex := 25, attributes := #[] }, { accessFlags := 25, nameIndex := 277, descriptorIndex := 25, attributes := #[] }, { accessFlags := 25, nameIndex := 280, descriptorIndex := 25, attributes := #[] }, { accessFlags := 25, nameIndex := 282, descriptorIndex := 25, attributes := #[] }, { accessFlags := 25, nameIndex := 284, descriptorIndex := 25, attributes := #[] }, { accessFlags := 25, nameIndex := 286, descriptorIndex := 25, attributes := #[] }, { accessFlags := 25, nameIndex := 288, descriptorIndex := 25, attributes := #[] }, { accessFlags := 25, nameIndex := 290, descriptorIndex := 25, attributes := #[] }, { accessFlags := 25, nameIndex := 292, descriptorIndex := 25, attributes := #[] }, { accessFlags := 26, nameIndex := 108, descriptorIndex := 109, attributes := #[] }, { accessFlags := 25, nameIndex := 294, descriptorIndex := 25, attributes := #[] }])
  fields := #[{ name := "U", type := (.object "jdk/internal/misc/Unsafe"), accessFlags := 24, slot := 0, constantValue := 0 }, { name := "BIG_ENDIAN", type := .boolean, accessFlags := 26, slot := 1, constantValue := 0 }, { name := "LOG2_ARRAY_BOOLEAN_INDEX_SCALE", type := .int, accessFlags := 25, slot := 2, constantValue := 0 }, { name := "LOG2_ARRAY_BYTE_INDEX_SCALE", type := .int, accessFlags := 25, slot := 3, constantValue := 0 }, { name := "LOG2_ARRAY_CHAR_INDEX_SCALE", type := .int, accessFlags := 25, slot := 4, constantValue := 0 }, { name := "LOG2_ARRAY_SHORT_INDEX_SCALE", type := .int, accessFlags := 25, slot := 5, constantValue := 0 }, { name := "LOG2_ARRAY_INT_INDEX_SCALE", type := .int, accessFlags := 25, slot := 6, constantValue := 0 }, { name := "LOG2_ARRAY_LONG_INDEX_SCALE", type := .int, accessFlags := 25, slot := 7, constantValue := 0 }, { name := "LOG2_ARRAY_FLOAT_INDEX_SCALE", type := .int, accessFlags := 25, slot := 8, constantValue := 0 }, { name := "LOG2_ARRAY_DOUBLE_INDEX_SCALE", type := .int, accessFlags := 25, slot := 9, constantValue := 0 }, { name := "LOG2_BYTE_BIT_SIZE", type := .int, accessFlags := 26, slot := 10, constantValue := 0 }, { name := "T_BOOLEAN", type := .int, accessFlags := 25, slot := 11, constantValue := 0 }, { name := "T_CHAR", type := .int, accessFlags := 25, slot := 12, constantValue := 0 }, { name := "T_FLOAT", type := .int, accessFlags := 25, slot := 13, constantValue := 0 }, { name := "T_DOUBLE", type := .int, accessFlags := 25, slot := 14, constantValue := 0 }, { name := "T_BYTE", type := .int, accessFlags := 25, slot := 15, constantValue := 0 }, { name := "T_SHORT", type := .int, accessFlags := 25, slot := 16, constantValue := 0 }, { name := "T_INT", type := .int, accessFlags := 25, slot := 17, constantValue := 0 }, { name := "T_LONG", type := .int, accessFlags := 25, slot := 18, constantValue := 0 }, { name := "JLA", type := (.object "jdk/internal/access/JavaLangAccess"), accessFlags := 26, slot := 19, constantValue := 0 }, { name := "SOFT_MAX_ARRAY_LENGTH", type := .int, accessFlags := 25, slot := 20, constantValue := 0 }]
  methods := #[k21m0]
  instanceTypes := #[]
  staticTypes := #[(.object "jdk/internal/misc/Unsafe"), .boolean, .int, .int, .int, .int, .int, .int, .int, .int, .int, .int, .int, .int, .int, .int, .int, .int, .int, (.object "jdk/internal/access/JavaLangAccess"), .int]
  resolved := Array.replicate 378 none
  statics := none }

/-- the primitive byte -/
def k22 : Class := { plain "byte" none with kind := .primitive 'B', accessFlags := 0x411 }
/-- [B -/
def k23 : Class := { plain "[B" (some 0) with kind := .array 22 .byte, interfaces := #[15, 3], accessFlags := 1041 }

/-- the primitive int -/
def k24 : Class := { plain "int" none with kind := .primitive 'I', accessFlags := 0x411 }
/-- [I -/
def k25 : Class := { plain "[I" (some 0) with kind := .array 24 .int, interfaces := #[15, 3], accessFlags := 1041 }

/-- [Ljava/lang/String; -/
def k26 : Class := { plain "[Ljava/lang/String;" (some 0) with kind := .array 8 (.object "java/lang/String"), interfaces := #[15, 3], accessFlags := 1041 }

def heap : Heap := #[{ cls := 8, slots := #[.long 0, .int 1, .null, .int 0, .null, .int 0, .int 0], vm := .statics 8 },
  { cls := 9, slots := #[.null, .null, .ref 4, .null, .null, .null], vm := .statics 9 },
  { cls := 13, slots := #[.ref 4, .null], vm := .statics 13 },
  { cls := 17, slots := #[.null, .null, .null], vm := .statics 17 },
  { cls := 13, slots := #[.null, .null, .null], vm := .none }]
def classes : Array Class := #[k0, k1, k2, k3, k4, k5, k6, k7, k8, k9, k10, k11, k12, k13, k14, k15, k16, k17, k18, k19, k20, k21, k22, k23, k24, k25, k26]
def interned : List (Array UInt16 × Addr) := []
def slotsUsed : Nat := 21
def theMethod : MethodId := ⟨1, 1⟩
def args0 : Array Value := #[.int 5, .int 3, .long 77, .int 7]
def aboutOver (below : List Frame) : State where
  vm := { classes := classes, interned := interned.toArray }
  heap := heap
  slotsUsed := slotsUsed
  threads := #[{ frames := .invoking theMethod args0 :: below }]
def below0 : List Frame := [.native { method := ⟨0, 0⟩, args := #[] }]
def about1 : State := aboutOver below0
def p0 : Program := .bare "" "" ""
def e0 : Env := launch0.env 0 0 0
theorem w_frames : about1.frames = Frame.invoking theMethod args0 :: below0 := rfl
set_option maxRecDepth 65536 in
theorem w_args : argsFit about1.vm theMethod args0 = true := by decide +kernel
set_option maxRecDepth 65536 in
theorem w_heap : heapFits about1 = true := by decide +kernel
set_option maxRecDepth 65536 in
theorem w_runnable : about1.curStatus? = some .runnable := by decide +kernel
set_option maxRecDepth 65536 in
theorem w_alone : about1.alone = true := by decide +kernel
set_option maxRecDepth 65536 in
theorem w_named : about1.methodNamed? x = some theMethod := by decide +kernel
set_option maxRecDepth 65536 in
theorem w_hears : about1.hears theMethod below0 = true := by decide +kernel
set_option maxRecDepth 65536 in
theorem w_ripe : about1.ripe theMethod args0 below0 = true := by decide +kernel
theorem w_running : about1.status = .running := rfl
set_option maxRecDepth 65536 in
theorem w_room : about1.hasRoom e0.platform room_1 = true :=
  launch0.hasRoom_least _ room_1 (by decide +kernel) (by decide +kernel) (by decide +kernel) (by decide +kernel) (by decide +kernel) (by decide +kernel)
theorem allAtoms_all (ts : List Jvm.Cond) (a : Array Jvm.Value) (st : Jvm.State) : (allAtoms ts).before a st = ts.all (fun c => c.before a st) := by
  induction ts with
  | nil => rfl
  | cons c t ih =>
    show (Jvm.Cond.and c (allAtoms t)).before a st = _
    rw [Jvm.Cond.before_and, ih, List.all_cons]
def words1 : List Jvm.Cond := Jvm.Cond.code x code maxLocals ret :: tables_1
/-- a 'code' word, met by the world's own term for the bytes: nothing is compared byte by byte -/
theorem code_word {y : MethodName} {bytes : ByteArray} {mx : Nat} {rt : Option FieldType} {a : Array Value} {s : State} {m : MethodId} {meth : Method} {c : Code} (h1 : s.methodNamed? y = some m) (h2 : s.vm.method? m = some meth) (h3 : meth.code = some c) (h4 : c.code = bytes)
    (h5 : (c.maxLocals == mx && c.exceptionTable.isEmpty && decide (c.maxStack ≤ mostOperands) && decide (meth.sig.returnType = rt) && !meth.locks && decide (parseMethodDescriptor y.desc = some meth.sig)) = true) : (Jvm.Cond.code y bytes mx rt).before a s = true := by
  simp only [Bool.and_eq_true, beq_iff_eq, Bool.not_eq_true', decide_eq_true_eq] at h5
  obtain ⟨⟨⟨⟨⟨g1, g2⟩, g3⟩, g4⟩, g5⟩, g6⟩ := h5
  simp [Cond.before, Cond.holds, Cond.value, h1, h2, h3, h4, g1, g2, g3, g4, g5, g6]
theorem codeWith_word {y : MethodName} {bytes : ByteArray} {mx : Nat} {rt : Option FieldType} {hs : List (Nat × Nat × Nat × Nat)} {a : Array Value} {s : State} {m : MethodId} {meth : Method} {c : Code} (h1 : s.methodNamed? y = some m) (h2 : s.vm.method? m = some meth) (h3 : meth.code = some c) (h4 : c.code = bytes)
    (h5 : (c.maxLocals == mx && decide (c.exceptionTable.toList.map (fun h => (h.startPc, h.endPc, h.handlerPc, h.catchType)) = hs) && decide (c.maxStack ≤ mostOperands) && decide (meth.sig.returnType = rt) && !meth.locks && decide (parseMethodDescriptor y.desc = some meth.sig)) = true) : (Jvm.Cond.codeWith y bytes mx rt hs).before a s = true := by
  simp only [Bool.and_eq_true, beq_iff_eq, Bool.not_eq_true', decide_eq_true_eq] at h5
  obtain ⟨⟨⟨⟨⟨g1, g2⟩, g3⟩, g4⟩, g5⟩, g6⟩ := h5
  subst g2
  simp [Cond.before, Cond.holds, Cond.value, h1, h2, h3, h4, g1, g3, g4, g5, g6]
def isCode : Jvm.Cond → Bool
  | .code _ _ _ _ => true
  | .codeWith _ _ _ _ _ => true
  | _ => false
theorem all_split {L : List Jvm.Cond} {P : Jvm.Cond → Bool} (h1 : L.all (fun c => isCode c || P c) = true) (h2 : ∀ c ∈ L.filter isCode, P c = true) : L.all P = true := by
  refine List.all_eq_true.mpr fun c hc => ?_
  have h := List.all_eq_true.mp h1 c hc
  rcases Bool.eq_false_or_eq_true (isCode c) with hi | hi
  · exact h2 c (List.mem_filter.mpr ⟨hc, hi⟩)
  · simpa [hi] using h
set_option maxRecDepth 65536 in
theorem w_c0 : (Jvm.Cond.code x code maxLocals ret).before args0 about1 = true := code_word (m := ⟨1, 1⟩) (meth := k1m1) (c := k1c1) (by decide +kernel) rfl rfl rfl (by decide +kernel)
set_option maxRecDepth 65536 in
theorem w_c1 : (Jvm.Cond.code ({ cls := "com/example/indexloom/indexloom/data/DataLineScalePinLaw", name := "blank", desc := "(II)B" } : Jvm.MethodName) method_4_code (3 : Nat) (Option.some Jvm.ClassFile.FieldType.byte)).before args0 about1 = true := code_word (m := ⟨1, 3⟩) (meth := k1m3) (c := k1c3) (by decide +kernel) rfl rfl rfl (by decide +kernel)
set_option maxRecDepth 65536 in
theorem w_c2 : (Jvm.Cond.code ({ cls := "com/example/indexloom/indexloom/data/DataLineScalePinLaw", name := "put", desc := "([BIZB)I" } : Jvm.MethodName) method_3_code (4 : Nat) (Option.some Jvm.ClassFile.FieldType.int)).before args0 about1 = true := code_word (m := ⟨1, 2⟩) (meth := k1m2) (c := k1c2) (by decide +kernel) rfl rfl rfl (by decide +kernel)
set_option maxRecDepth 65536 in
theorem w_c3 : (Jvm.Cond.code ({ cls := "com/example/indexloom/indexloom/data/DataLineScalePinLaw", name := "digit", desc := "(JI)B" } : Jvm.MethodName) method_5_code (3 : Nat) (Option.some Jvm.ClassFile.FieldType.byte)).before args0 about1 = true := code_word (m := ⟨1, 4⟩) (meth := k1m4) (c := k1c4) (by decide +kernel) rfl rfl rfl (by decide +kernel)
set_option maxRecDepth 65536 in
theorem w_c4 : (Jvm.Cond.code ({ cls := "com/example/indexloom/indexloom/data/DataHeader", name := "<init>", desc := "(Ljava/lang/String;Ljava/lang/String;)V" } : Jvm.MethodName) prog_13_method_1_code (6 : Nat) (Option.none : Option Jvm.ClassFile.FieldType)).before args0 about1 = true := code_word (m := ⟨2, 0⟩) (meth := k2m0) (c := k2c0) (by decide +kernel) rfl rfl rfl (by decide +kernel)
set_option maxRecDepth 65536 in
theorem w_c5 : (Jvm.Cond.code ({ cls := "java/lang/Object", name := "<init>", desc := "()V" } : Jvm.MethodName) object_method_1_code (1 : Nat) (Option.none : Option Jvm.ClassFile.FieldType)).before args0 about1 = true := code_word (m := ⟨0, 0⟩) (meth := k0m0) (c := k0c0) (by decide +kernel) rfl rfl rfl (by decide +kernel)
set_option maxRecDepth 65536 in
theorem w_c6 : (Jvm.Cond.code ({ cls := "java/lang/String", name := "getBytes", desc := "(Ljava/nio/charset/Charset;)[B" } : Jvm.MethodName) jdk_42_method_64_code (2 : Nat) (Option.some (Jvm.ClassFile.FieldType.array Jvm.ClassFile.FieldType.byte))).before args0 about1 = true := code_word (m := ⟨8, 5⟩) (meth := k8m5) (c := k8c5) (by decide +kernel) rfl rfl rfl (by decide +kernel)
set_option maxRecDepth 65536 in
theorem w_c7 : (Jvm.Cond.code ({ cls := "java/lang/String", name := "coder", desc := "()B" } : Jvm.MethodName) jdk_42_method_152_code (1 : Nat) (Option.some Jvm.ClassFile.FieldType.byte)).before args0 about1 = true := code_word (m := ⟨8, 6⟩) (meth := k8m6) (c := k8c6) (by decide +kernel) rfl rfl rfl (by decide +kernel)
set_option maxRecDepth 65536 in
theorem w_c8 : (Jvm.Cond.code ({ cls := "java/lang/String", name := "encode", desc := "(Ljava/nio/charset/Charset;B[B)[B" } : Jvm.MethodName) jdk_42_method_18_code (3 : Nat) (Option.some (Jvm.ClassFile.FieldType.array Jvm.ClassFile.FieldType.byte))).before args0 about1 = true := code_word (m := ⟨8, 3⟩) (meth := k8m3) (c := k8c3) (by decide +kernel) rfl rfl rfl (by decide +kernel)
set_option maxRecDepth 65536 in
theorem w_c9 : (Jvm.Cond.code ({ cls := "java/lang/String", name := "encodeUTF8", desc := "(B[BZ)[B" } : Jvm.MethodName) jdk_42_method_46_code (9 : Nat) (Option.some (Jvm.ClassFile.FieldType.array Jvm.ClassFile.FieldType.byte))).before args0 about1 = true := code_word (m := ⟨8, 4⟩) (meth := k8m4) (c := k8c4) (by decide +kernel) rfl rfl rfl (by decide +kernel)
set_option maxRecDepth 65536 in
theorem w_c10 : (Jvm.Cond.code ({ cls := "java/lang/StringCoding", name := "hasNegatives", desc := "([BII)Z" } : Jvm.MethodName) jdk_123_method_2_code (3 : Nat) (Option.some Jvm.ClassFile.FieldType.boolean)).before args0 about1 = true := code_word (m := ⟨14, 1⟩) (meth := k14m1) (c := k14c1) (by decide +kernel) rfl rfl rfl (by decide +kernel)
set_option maxRecDepth 65536 in
theorem w_c11 : (Jvm.Cond.code ({ cls := "java/lang/StringCoding", name := "countPositives", desc := "([BII)I" } : Jvm.MethodName) jdk_123_method_3_code (5 : Nat) (Option.some Jvm.ClassFile.FieldType.int)).before args0 about1 = true := code_word (m := ⟨14, 2⟩) (meth := k14m2) (c := k14c2) (by decide +kernel) rfl rfl rfl (by decide +kernel)
set_option maxRecDepth 65536 in
theorem w_c12 : (Jvm.Cond.code ({ cls := "com/example/indexloom/indexloom/data/DataHeader", name := "split", desc := "([BII[I)I" } : Jvm.MethodName) prog_13_method_11_code (10 : Nat) (Option.some Jvm.ClassFile.FieldType.int)).before args0 about1 = true := code_word (m := ⟨2, 2⟩) (meth := k2m2) (c := k2c2) (by decide +kernel) rfl rfl rfl (by decide +kernel)
set_option maxRecDepth 65536 in
theorem w_c13 : (Jvm.Cond.code ({ cls := "com/example/indexloom/indexloom/data/DataHeader", name := "isBlank", desc := "(B)Z" } : Jvm.MethodName) prog_13_method_12_code (1 : Nat) (Option.some Jvm.ClassFile.FieldType.boolean)).before args0 about1 = true := code_word (m := ⟨2, 3⟩) (meth := k2m3) (c := k2c3) (by decide +kernel) rfl rfl rfl (by decide +kernel)
set_option maxRecDepth 65536 in
theorem w_c14 : (Jvm.Cond.code ({ cls := "java/lang/String", name := "<init>", desc := "([BIILjava/nio/charset/Charset;)V" } : Jvm.MethodName) jdk_42_method_10_code (5 : Nat) (Option.none : Option Jvm.ClassFile.FieldType)).before args0 about1 = true := code_word (m := ⟨8, 1⟩) (meth := k8m1) (c := k8c1) (by decide +kernel) rfl rfl rfl (by decide +kernel)
set_option maxRecDepth 65536 in
theorem w_c15 : (Jvm.Cond.code ({ cls := "java/util/Objects", name := "requireNonNull", desc := "(Ljava/lang/Object;)Ljava/lang/Object;" } : Jvm.MethodName) jdk_31_method_10_code (1 : Nat) (Option.some (Jvm.ClassFile.FieldType.object "java/lang/Object"))).before args0 about1 = true := code_word (m := ⟨16, 1⟩) (meth := k16m1) (c := k16c1) (by decide +kernel) rfl rfl rfl (by decide +kernel)
set_option maxRecDepth 65536 in
theorem w_c16 : (Jvm.Cond.code ({ cls := "java/lang/String", name := "checkBoundsOffCount", desc := "(III)I" } : Jvm.MethodName) jdk_42_method_157_code (3 : Nat) (Option.some Jvm.ClassFile.FieldType.int)).before args0 about1 = true := code_word (m := ⟨8, 7⟩) (meth := k8m7) (c := k8c7) (by decide +kernel) rfl rfl rfl (by decide +kernel)
set_option maxRecDepth 65536 in
theorem w_c17 : (Jvm.Cond.code ({ cls := "jdk/internal/util/Preconditions", name := "checkFromIndexSize", desc := "(IIILjava/util/function/BiFunction;)I" } : Jvm.MethodName) jdk_41_method_13_code (4 : Nat) (Option.some Jvm.ClassFile.FieldType.int)).before args0 about1 = true := code_word (m := ⟨17, 1⟩) (meth := k17m1) (c := k17c1) (by decide +kernel) rfl rfl rfl (by decide +kernel)
set_option maxRecDepth 65536 in
theorem w_c18 : (Jvm.Cond.code ({ cls := "java/util/Arrays", name := "copyOfRange", desc := "([BII)[B" } : Jvm.MethodName) jdk_65_method_132_code (3 : Nat) (Option.some (Jvm.ClassFile.FieldType.array Jvm.ClassFile.FieldType.byte))).before args0 about1 = true := code_word (m := ⟨18, 1⟩) (meth := k18m1) (c := k18c1) (by decide +kernel) rfl rfl rfl (by decide +kernel)
set_option maxRecDepth 65536 in
theorem w_c19 : (Jvm.Cond.code ({ cls := "com/example/indexloom/indexloom/data/DataLine", name := "<init>", desc := "(Lcom/example/indexloom/indexloom/data/DataHeader;)V" } : Jvm.MethodName) prog_14_method_1_code (2 : Nat) (Option.none : Option Jvm.ClassFile.FieldType)).before args0 about1 = true := code_word (m := ⟨19, 0⟩) (meth := k19m0) (c := k19c0) (by decide +kernel) rfl rfl rfl (by decide +kernel)
set_option maxRecDepth 65536 in
theorem w_c20 : (Jvm.Cond.code ({ cls := "com/example/indexloom/indexloom/data/DataHeader", name := "size", desc := "()I" } : Jvm.MethodName) prog_13_method_3_code (1 : Nat) (Option.some Jvm.ClassFile.FieldType.int)).before args0 about1 = true := code_word (m := ⟨2, 1⟩) (meth := k2m1) (c := k2c1) (by decide +kernel) rfl rfl rfl (by decide +kernel)
set_option maxRecDepth 65536 in
theorem w_c21 : (Jvm.Cond.code ({ cls := "com/example/indexloom/indexloom/data/DataLine", name := "set", desc := "(I[BII)V" } : Jvm.MethodName) prog_14_method_2_code (6 : Nat) (Option.none : Option Jvm.ClassFile.FieldType)).before args0 about1 = true := code_word (m := ⟨19, 1⟩) (meth := k19m1) (c := k19c1) (by decide +kernel) rfl rfl rfl (by decide +kernel)
set_option maxRecDepth 65536 in
theorem w_c22 : (Jvm.Cond.code ({ cls := "com/example/indexloom/indexloom/data/DataLine", name := "scale", desc := "(I)I" } : Jvm.MethodName) prog_14_method_10_code (5 : Nat) (Option.some Jvm.ClassFile.FieldType.int)).before args0 about1 = true := code_word (m := ⟨19, 2⟩) (meth := k19m2) (c := k19c2) (by decide +kernel) rfl rfl rfl (by decide +kernel)
set_option maxRecDepth 65536 in
theorem w_c23 : (Jvm.Cond.code ({ cls := "com/example/indexloom/indexloom/data/DataLine", name := "start", desc := "(I)I" } : Jvm.MethodName) prog_14_method_15_code (2 : Nat) (Option.some Jvm.ClassFile.FieldType.int)).before args0 about1 = true := code_word (m := ⟨19, 3⟩) (meth := k19m3) (c := k19c3) (by decide +kernel) rfl rfl rfl (by decide +kernel)
set_option maxRecDepth 65536 in
theorem w_c24 : (Jvm.Cond.code ({ cls := "com/example/indexloom/indexloom/data/DataLine", name := "end", desc := "(I)I" } : Jvm.MethodName) prog_14_method_16_code (2 : Nat) (Option.some Jvm.ClassFile.FieldType.int)).before args0 about1 = true := code_word (m := ⟨19, 4⟩) (meth := k19m4) (c := k19c4) (by decide +kernel) rfl rfl rfl (by decide +kernel)
set_option maxRecDepth 65536 in
theorem w_h0 : (Jvm.Cond.codeWith ({ cls := "java/lang/String", name := "<init>", desc := "(Ljava/nio/charset/Charset;[BII)V" } : Jvm.MethodName) jdk_42_method_11_code (11 : Nat) (Option.none : Option Jvm.ClassFile.FieldType) [((800 : Nat), (813 : Nat), (816 : Nat), (202 : Nat))]).before args0 about1 = true := codeWith_word (m := ⟨8, 2⟩) (meth := k8m2) (c := k8c2) (by decide +kernel) rfl rfl rfl (by decide +kernel)
def codes1 : List Jvm.Cond := [Jvm.Cond.code x code maxLocals ret, Jvm.Cond.code ({ cls := "com/example/indexloom/indexloom/data/DataLineScalePinLaw", name := "blank", desc := "(II)B" } : Jvm.MethodName) method_4_code (3 : Nat) (Option.some Jvm.ClassFile.FieldType.byte), Jvm.Cond.code ({ cls := "com/example/indexloom/indexloom/data/DataLineScalePinLaw", name := "put", desc := "([BIZB)I" } : Jvm.MethodName) method_3_code (4 : Nat) (Option.some Jvm.ClassFile.FieldType.int), Jvm.Cond.code ({ cls := "com/example/indexloom/indexloom/data/DataLineScalePinLaw", name := "digit", desc := "(JI)B" } : Jvm.MethodName) method_5_code (3 : Nat) (Option.some Jvm.ClassFile.FieldType.byte), Jvm.Cond.code ({ cls := "com/example/indexloom/indexloom/data/DataHeader", name := "<init>", desc := "(Ljava/lang/String;Ljava/lang/String;)V" } : Jvm.MethodName) prog_13_method_1_code (6 : Nat) (Option.none : Option Jvm.ClassFile.FieldType), Jvm.Cond.code ({ cls := "java/lang/Object", name := "<init>", desc := "()V" } : Jvm.MethodName) object_method_1_code (1 : Nat) (Option.none : Option Jvm.ClassFile.FieldType), Jvm.Cond.code ({ cls := "java/lang/String", name := "getBytes", desc := "(Ljava/nio/charset/Charset;)[B" } : Jvm.MethodName) jdk_42_method_64_code (2 : Nat) (Option.some (Jvm.ClassFile.FieldType.array Jvm.ClassFile.FieldType.byte)), Jvm.Cond.code ({ cls := "java/lang/String", name := "coder", desc := "()B" } : Jvm.MethodName) jdk_42_method_152_code (1 : Nat) (Option.some Jvm.ClassFile.FieldType.byte), Jvm.Cond.code ({ cls := "java/lang/String", name := "encode", desc := "(Ljava/nio/charset/Charset;B[B)[B" } : Jvm.MethodName) jdk_42_method_18_code (3 : Nat) (Option.some (Jvm.ClassFile.FieldType.array Jvm.ClassFile.FieldType.byte)), Jvm.Cond.code ({ cls := "java/lang/String", name := "encodeUTF8", desc := "(B[BZ)[B" } : Jvm.MethodName) jdk_42_method_46_code (9 : Nat) (Option.some (Jvm.ClassFile.FieldType.array Jvm.ClassFile.FieldType.byte)), Jvm.Cond.code ({ cls := "java/lang/StringCoding", name := "hasNegatives", desc := "([BII)Z" } : Jvm.MethodName) jdk_123_method_2_code (3 : Nat) (Option.some Jvm.ClassFile.FieldType.boolean), Jvm.Cond.code ({ cls := "java/lang/StringCoding", name := "countPositives", desc := "([BII)I" } : Jvm.MethodName) jdk_123_method_3_code (5 : Nat) (Option.some Jvm.ClassFile.FieldType.int), Jvm.Cond.code ({ cls := "com/example/indexloom/indexloom/data/DataHeader", name := "split", desc := "([BII[I)I" } : Jvm.MethodName) prog_13_method_11_code (10 : Nat) (Option.some Jvm.ClassFile.FieldType.int), Jvm.Cond.code ({ cls := "com/example/indexloom/indexloom/data/DataHeader", name := "isBlank", desc := "(B)Z" } : Jvm.MethodName) prog_13_method_12_code (1 : Nat) (Option.some Jvm.ClassFile.FieldType.boolean), Jvm.Cond.code ({ cls := "java/lang/String", name := "<init>", desc := "([BIILjava/nio/charset/Charset;)V" } : Jvm.MethodName) jdk_42_method_10_code (5 : Nat) (Option.none : Option Jvm.ClassFile.FieldType), Jvm.Cond.code ({ cls := "java/util/Objects", name := "requireNonNull", desc := "(Ljava/lang/Object;)Ljava/lang/Object;" } : Jvm.MethodName) jdk_31_method_10_code (1 : Nat) (Option.some (Jvm.ClassFile.FieldType.object "java/lang/Object")), Jvm.Cond.code ({ cls := "java/lang/String", name := "checkBoundsOffCount", desc := "(III)I" } : Jvm.MethodName) jdk_42_method_157_code (3 : Nat) (Option.some Jvm.ClassFile.FieldType.int), Jvm.Cond.code ({ cls := "jdk/internal/util/Preconditions", name := "checkFromIndexSize", desc := "(IIILjava/util/function/BiFunction;)I" } : Jvm.MethodName) jdk_41_method_13_code (4 : Nat) (Option.some Jvm.ClassFile.FieldType.int), Jvm.Cond.codeWith ({ cls := "java/lang/String", name := "<init>", desc := "(Ljava/nio/charset/Charset;[BII)V" } : Jvm.MethodName) jdk_42_method_11_code (11 : Nat) (Option.none : Option Jvm.ClassFile.FieldType) [((800 : Nat), (813 : Nat), (816 : Nat), (202 : Nat))], Jvm.Cond.code ({ cls := "java/util/Arrays", name := "copyOfRange", desc := "([BII)[B" } : Jvm.MethodName) jdk_65_method_132_code (3 : Nat) (Option.some (Jvm.ClassFile.FieldType.array Jvm.ClassFile.FieldType.byte)), Jvm.Cond.code ({ cls := "com/example/indexloom/indexloom/data/DataLine", name := "<init>", desc := "(Lcom/example/indexloom/indexloom/data/DataHeader;)V" } : Jvm.MethodName) prog_14_method_1_code (2 : Nat) (Option.none : Option Jvm.ClassFile.FieldType), Jvm.Cond.code ({ cls := "com/example/indexloom/indexloom/data/DataHeader", name := "size", desc := "()I" } : Jvm.MethodName) prog_13_method_3_code (1 : Nat) (Option.some Jvm.ClassFile.FieldType.int), Jvm.Cond.code ({ cls := "com/example/indexloom/indexloom/data/DataLine", name := "set", desc := "(I[BII)V" } : Jvm.MethodName) prog_14_method_2_code (6 : Nat) (Option.none : Option Jvm.ClassFile.FieldType), Jvm.Cond.code ({ cls := "com/example/indexloom/indexloom/data/DataLine", name := "scale", desc := "(I)I" } : Jvm.MethodName) prog_14_method_10_code (5 : Nat) (Option.some Jvm.ClassFile.FieldType.int), Jvm.Cond.code ({ cls := "com/example/indexloom/indexloom/data/DataLine", name := "start", desc := "(I)I" } : Jvm.MethodName) prog_14_method_15_code (2 : Nat) (Option.some Jvm.ClassFile.FieldType.int), Jvm.Cond.code ({ cls := "com/example/indexloom/indexloom/data/DataLine", name := "end", desc := "(I)I" } : Jvm.MethodName) prog_14_method_16_code (2 : Nat) (Option.some Jvm.ClassFile.FieldType.int)]
set_option maxRecDepth 65536 in
theorem codes_eq : words1.filter isCode = codes1 := rfl
theorem w_codes : ∀ c ∈ words1.filter isCode, c.before args0 about1 = true := by
  rw [codes_eq]
  intro c hc
  simp only [codes1, List.mem_cons, List.not_mem_nil, or_false] at hc
  rcases hc with rfl | rfl | rfl | rfl | rfl | rfl | rfl | rfl | rfl | rfl | rfl | rfl | rfl | rfl | rfl | rfl | rfl | rfl | rfl | rfl | rfl | rfl | rfl | rfl | rfl | rfl
  · exact w_c0
  · exact w_c1
  · exact w_c2
  · exact w_c3
  · exact w_c4
  · exact w_c5
  · exact w_c6
  · exact w_c7
  · exact w_c8
  · exact w_c9
  · exact w_c10
  · exact w_c11
  · exact w_c12
  · exact w_c13
  · exact w_c14
  · exact w_c15
  · exact w_c16
  · exact w_c17
  · exact w_h0
  · exact w_c18
  · exact w_c19
  · exact w_c20
  · exact w_c21
  · exact w_c22
  · exact w_c23
  · exact w_c24
set_option maxRecDepth 65536 in
theorem w_t1 : (words1.take 24).all (fun c => isCode c || c.before args0 about1) = true := by decide +kernel
set_option maxRecDepth 65536 in
theorem w_t2 : ((words1.drop 24).take 24).all (fun c => isCode c || c.before args0 about1) = true := by decide +kernel
set_option maxRecDepth 65536 in
theorem w_t3 : (((words1.drop 24).drop 24).take 24).all (fun c => isCode c || c.before args0 about1) = true := by decide +kernel
set_option maxRecDepth 65536 in
theorem w_t4 : ((((words1.drop 24).drop 24).drop 24).take 24).all (fun c => isCode c || c.before args0 about1) = true := by decide +kernel
set_option maxRecDepth 65536 in
theorem w_t5 : (((((words1.drop 24).drop 24).drop 24).drop 24).take 24).all (fun c => isCode c || c.before args0 about1) = true := by decide +kernel
set_option maxRecDepth 65536 in
theorem w_t6 : ((((((words1.drop 24).drop 24).drop 24).drop 24).drop 24).take 24).all (fun c => isCode c || c.before args0 about1) = true := by decide +kernel
set_option maxRecDepth 65536 in
theorem w_t7 : ((((((words1.drop 24).drop 24).drop 24).drop 24).drop 24).drop 24).all (fun c => isCode c || c.before args0 about1) = true := by decide +kernel
theorem w_tables : (allAtoms (Jvm.Cond.code x code maxLocals ret :: tables_1)).before args0 about1 = true := by
  rw [allAtoms_all]
  show words1.all (fun c => c.before args0 about1) = true
  refine all_split ?_ w_codes
  rw [← List.take_append_drop 24 words1, List.all_append, w_t1, ← List.take_append_drop 24 (words1.drop 24), List.all_append, w_t2, ← List.take_append_drop 24 ((words1.drop 24).drop 24), List.all_append, w_t3, ← List.take_append_drop 24 (((words1.drop 24).drop 24).drop 24), List.all_append, w_t4, ← List.take_append_drop 24 ((((words1.drop 24).drop 24).drop 24).drop 24), List.all_append, w_t5, ← List.take_append_drop 24 (((((words1.drop 24).drop 24).drop 24).drop 24).drop 24), List.all_append, w_t6, w_t7]
  rfl
set_option maxRecDepth 65536 in
theorem w_rest : rest_1_c.before args0 about1 = true := by decide +kernel
set_option maxRecDepth 65536 in
theorem w_case : (Jvm.Cond.and given_1 narrow_1).before args0 about1 = true := by decide +kernel
set_option maxRecDepth 65536 in
theorem w_consts : constsHeld consts_1 about1 := Jvm.Lit.constsHeldB_iff.mp (by decide +kernel)
theorem w_applies : (headSpec (Jvm.Cond.code x code maxLocals ret :: tables_1) room_1).applies x e0.platform about1 = true :=
  (Spec.applies_iff w_frames).mpr ⟨w_running, w_runnable, w_alone, w_named, w_hears, w_ripe, w_room, w_tables⟩
theorem atStart : AtStart classFile x code maxLocals ret World_1 tables_1 room_1 Calls_1 rest_1 Pre_1 launch0 p0 e0 about1 theMethod args0 below0 :=
  ⟨lists_1, trivial, launch0.admits_env _ _ _, launch0.least_env, fairChoices_fair.cas, fairChoices_fair.clock, w_frames, w_args, w_heap, w_applies, ⟨w_consts, trivial⟩, w_rest, w_case⟩
end start1
theorem witness_1 : WitnessClaimed_1 := ⟨start1.p0, start1.e0, start1.about1, start1.theMethod, start1.args0, start1.below0, start1.atStart⟩
end Jvm.Pilot.@@N@@
