import JvmDerived
import JvmDerived.Pilot.@@N@@Statement
import JvmDerived.Pilot.@@N@@Code
set_option linter.unusedVariables false
set_option linter.unusedSimpArgs false
namespace Jvm.Pilot.@@N@@
open Jvm Jvm.ClassFile Sem Op Lib Jvm.Free Jvm.Stand Jvm.LawKit Jvm.RoadKit Bundle Jvm.Pilot.@@N@@.Jvm.D
section OwnKit
variable {p : Program} {l : Launch} {e : Env} {R : Room} {s : State} {m : MethodId} {args : Array Value} {below : List Frame} {meth : Method} {c : Code} {T : State} {locs : List Loc} {cells slots : Nat} {Z : State} {a0 : Array Value} {h : Heap} {n0 : Nat} {G : State → Outcome → Prop} {kc ks : Nat} {Q : Option Value → Heap → Prop}
/-- what is left of a walk: from U the body comes to an end of which G holds -/
def own_Go (tb : Tables) (e : Env) (below : List Frame) (G : State → Outcome → Prop) (U : State) : Prop := ∃ s₂ o, Steps tb e below U s₂ ∧ s₂.status = .running ∧ Ended s₂ below o ∧ G s₂ o
theorem own_go {tb : Tables} {U U' : State} (f : ∀ t, Steps tb e below U' t → Steps tb e below U t) (k : own_Go tb e below G U') : own_Go tb e below G U := by
  obtain ⟨a, b, c, d⟩ := k
  exact ⟨a, b, f _ c, d⟩
/-- where the run stands: its heap is h, nothing below n0 has been written -/
def own_At (p : Program) (l : Launch) (e : Env) (R : Room) (s : State) (m : MethodId) (args : Array Value) (below : List Frame) (meth : Method) (c : Code) (n0 : Nat) (T : State) (h : Heap) (cells slots : Nat) : Prop :=
  ∃ locs, Stand p l e R s m args below meth c T locs cells slots ∧ T.heap = h ∧ Fr n0 locs
theorem own_At.here (A : own_At p l e R s m args below meth c n0 T h cells slots) : At T m c below := by obtain ⟨_, X, -, -⟩ := A; exact X.here
theorem own_At.heap (A : own_At p l e R s m args below meth c n0 T h cells slots) : T.heap = h := by obtain ⟨_, -, q, -⟩ := A; exact q
/-- the end of a body: it returns v, Q holds of v and the heap -/
def own_End (n0 : Nat) (s : State) (kc ks : Nat) (Q : Option Value → Heap → Prop) : State → Outcome → Prop := fun s₂ o => ∃ v L, o = .returned v ∧ (Q v s₂.heap ∧ Fr n0 L) ∧ FrameEnd s o s₂ L kc ks
theorem own_leave (A : own_At p l e R s m args below meth c n0 T h cells slots) {v : Option Value} (hv : meth.sig.returnType = none → v = none) (hlk : meth.locks = false) (hc : cells ≤ kc) (hs : slots ≤ ks) (q : Q v h) {U : State}
    (st : ∀ locs, Stand p l e R s m args below meth c T locs cells slots → ∀ fs, (∀ (f : JFrame) (acts : List Action), f.method = m → f.locked = none → f.entered = [] → (doReturn e (T.setTop f) acts v).1 = T.setFrames fs) → Steps p.tables e below U (T.setFrames fs)) : own_Go p.tables e below (own_End n0 s kc ks Q) U := by
  obtain ⟨locs, X, rfl, N⟩ := A
  obtain ⟨fs, hr, hrun, hended, hW, hsame⟩ := X.leave hv hlk
  exact ⟨_, _, st locs X fs hr, hrun, hended, _, _, rfl, ⟨q, N⟩, ⟨_, rfl⟩, hW, hsame.mono hc hs⟩
theorem own_retI (A : own_At p l e R s m args below meth c n0 T h cells slots) (hx : p.tables.exec = Jvm.exec) (hret : meth.sig.returnType = some .int) (hlk : meth.locks = false) (hc : cells ≤ kc) (hs : slots ≤ ks) {pc : Nat} {Ls : Array Slot} {z : Int32} {rest : List Value} (hd : decode c.code pc = .ok (.ireturn, 1)) (q : Q (some (.int z)) h) :
    own_Go p.tables e below (own_End n0 s kc ks Q) (T.setTop (mkF m pc Ls (.int z :: rest))) :=
  own_leave A (fun q => by rw [hret] at q; cases q) hlk hc hs q fun _ X _ hr => retOut X hx hret rfl (Or.inl ⟨rfl, Or.inl rfl, _, rfl⟩) hd hr
theorem own_retN (A : own_At p l e R s m args below meth c n0 T h cells slots) (hx : p.tables.exec = Jvm.exec) {t : FieldType} (hret : meth.sig.returnType = some t) (ht : t = .boolean ∨ t = .byte ∨ t = .char ∨ t = .short) (hlk : meth.locks = false) (hc : cells ≤ kc) (hs : slots ≤ ks) {pc : Nat} {Ls : Array Slot} {z : Int32} {rest : List Value} (hd : decode c.code pc = .ok (.ireturn, 1)) (q : Q (some (.int (nar t z))) h) :
    own_Go p.tables e below (own_End n0 s kc ks Q) (T.setTop (mkF m pc Ls (.int z :: rest))) :=
  own_leave A (fun q => by rw [hret] at q; cases q) hlk hc hs q fun _ X _ hr => retN X hx hret ht hd hr
theorem own_retJ (A : own_At p l e R s m args below meth c n0 T h cells slots) (hx : p.tables.exec = Jvm.exec) (hret : meth.sig.returnType = some .long) (hlk : meth.locks = false) (hc : cells ≤ kc) (hs : slots ≤ ks) {pc : Nat} {Ls : Array Slot} {z : Int64} {rest : List Value} (hd : decode c.code pc = .ok (.lreturn, 1)) (q : Q (some (.long z)) h) :
    own_Go p.tables e below (own_End n0 s kc ks Q) (T.setTop (mkF m pc Ls (.long z :: rest))) :=
  own_leave A (fun q => by rw [hret] at q; cases q) hlk hc hs q fun _ X _ hr => retOut X hx hret rfl (Or.inr (Or.inl ⟨rfl, rfl, _, rfl⟩)) hd hr
theorem own_retD (A : own_At p l e R s m args below meth c n0 T h cells slots) (hx : p.tables.exec = Jvm.exec) (hret : meth.sig.returnType = some .double) (hlk : meth.locks = false) (hc : cells ≤ kc) (hs : slots ≤ ks) {pc : Nat} {Ls : Array Slot} {z : UInt64} {rest : List Value} (hd : decode c.code pc = .ok (.dreturn, 1)) (q : Q (some (.double z)) h) :
    own_Go p.tables e below (own_End n0 s kc ks Q) (T.setTop (mkF m pc Ls (.double z :: rest))) :=
  own_leave A (fun q => by rw [hret] at q; cases q) hlk hc hs q fun _ X _ hr => retOut X hx hret rfl (Or.inr (Or.inr (Or.inl ⟨rfl, rfl, _, rfl⟩))) hd hr
theorem own_retA (A : own_At p l e R s m args below meth c n0 T h cells slots) (hx : p.tables.exec = Jvm.exec) {t : FieldType} (hret : meth.sig.returnType = some t) (ht : t.isReference = true) (hlk : meth.locks = false) (hc : cells ≤ kc) (hs : slots ≤ ks) {pc : Nat} {Ls : Array Slot} {w : Value} (hw : w.isRef = true) {rest : List Value} (hd : decode c.code pc = .ok (.areturn, 1)) (q : Q (some w) h) :
    own_Go p.tables e below (own_End n0 s kc ks Q) (T.setTop (mkF m pc Ls (w :: rest))) :=
  own_leave A (fun q => by rw [hret] at q; cases q) hlk hc hs q fun _ X _ hr => retOut X hx hret (by cases t <;> first | rfl | cases ht) (Or.inr (Or.inr (Or.inr (Or.inr ⟨rfl, ht, hw⟩)))) hd hr
theorem own_retV (A : own_At p l e R s m args below meth c n0 T h cells slots) (hx : p.tables.exec = Jvm.exec) (hret : meth.sig.returnType = none) (hlk : meth.locks = false) (hc : cells ≤ kc) (hs : slots ≤ ks) {pc : Nat} {Ls : Array Slot} (hd : decode c.code pc = .ok (.return_, 1)) (q : Q none h) :
    own_Go p.tables e below (own_End n0 s kc ks Q) (T.setTop (mkF m pc Ls [])) :=
  own_leave A (fun _ => rfl) hlk hc hs q fun _ X _ hr => X.returnOut hx hret hd hr
/-- a body's contract: called with as' at the heap h0 it returns, and Q holds of what it returns and of the heap -/
def own_Met (l : Launch) (Z : State) (n0 : Nat) (y : MethodName) (bytes : ByteArray) (maxL : Nat) (ret : Option FieldType) (rm : Room) (as' : Array Value) (h0 : Heap) (Q : Option Value → Heap → Prop) : Prop :=
  ∀ ws, MetFree l y (head1 (Cond.code y bytes maxL ret :: ws) rm) (fun a U => a = as' ∧ Z.Warmed39 U.vm ∧ U.heap = h0) (fun _ _ _ _ _ => True) (fun _ U o U' => ∃ v L, o = .returned v ∧ (Q v U'.heap ∧ Fr n0 L) ∧ FrameEnd U o U' L rm.cells rm.slots)
theorem own_met {y : MethodName} {bytes : ByteArray} {maxL : Nat} {ret : Option FieldType} {rm : Room} {as' : Array Value} {h0 : Heap} (hp : plainFor y = true)
    (body : ∀ (p : Program) (e : Env) (s : State) (m : MethodId) (below : List Frame) (meth : Method) (c : Code) (T : State), p.tables.exec = Jvm.exec → c.code = bytes → c.maxLocals = maxL → s.vm.findClass y.cls = some m.cls → meth.name = y.name → meth.sig.returnType = ret → meth.locks = false → Z.Warmed39 s.vm →
      own_At p l e rm s m as' below meth c n0 T h0 0 0 → own_Go p.tables e below (own_End n0 s rm.cells rm.slots Q) (T.setTop (entryFrame m as' maxL))) : own_Met l Z n0 y bytes maxL ret rm as' h0 Q := by
  intro ws
  refine MetFree.of_bodySF hp hisR ?_
  intro p e s m args below meth c s₁ Bd hml0 hP hK
  obtain ⟨rfl, hZ, hh⟩ := hP
  exact body p e s m below meth c s₁ Bd.exec Bd.bytes hml0 (findClass_of_methodNamed Bd.named) (name_of_methodNamed Bd.named Bd.method).1 Bd.returns Bd.notSynchronized hZ ⟨[], Stand.of_body Bd, by rw [← hh, Bd.state]; rfl, Fr.nil n0⟩
theorem own_callS (A : own_At p l e R s m args below meth c n0 T h cells slots) (hx : p.tables.exec = Jvm.exec) (hZ : Z.Warmed39 s.vm) {own : String} {index : Nat} {y : MethodName} {bytes : ByteArray} {maxL : Nat} {ret : Option FieldType} (hown : s.vm.findClass own = some m.cls)
    (w1 : (Cond.methodLink own index y).before a0 Z = true) (w2 : (Cond.static y).before a0 Z = true) (w3 : (Cond.initialized y.cls).before a0 Z = true) (w4 : (Cond.code y bytes maxL ret).before a0 Z = true) (hy : y.cls ≠ "java/lang/invoke/MethodHandle" ∧ y.cls ≠ "java/lang/invoke/VarHandle")
    {rm : Room} {argsL rest : List Value} (hM : own_Met l Z n0 y bytes maxL ret rm argsL.toArray h Q) (W : Nat) (hfr : rm.frames + 1 ≤ R.frames) (hlo : W + (maxL + 11) + rm.locals ≤ R.locals) {g : JFrame} (hg : g.method = m) (hsize : g.locals.size = c.maxLocals)
    (hlen : ∀ sig, parseMethodDescriptor y.desc = some sig → argsL.length = sig.parameters.length) (hs : g.stack = argsL.reverse ++ rest) (hW : 2 * g.monitorRoom + (rest.map fun v => v.category).sum ≤ W) (hd : decode c.code g.pc = .ok (.invokestatic index, 3))
    (hc : cells + rm.cells ≤ R.cells) (hl : slots + rm.slots ≤ R.slots)
    (k : ∀ v T' h', own_At p l e R s m args below meth c n0 T' h' (cells + rm.cells) (slots + rm.slots) → Q v h' → own_Go p.tables e below G (T'.setTop { g with pc := g.pc + 3, stack := v.toList ++ rest })) : own_Go p.tables e below G (T.setTop g) := by
  obtain ⟨locs, X, eT, N⟩ := A
  obtain ⟨v, _, ⟨T1, L1, k1, s1⟩, -, X1, ⟨Lc, ⟨hQ, N1⟩, l1, y1, z1⟩, st⟩ := Jvm.LawKit.callS X hx (y := y) hown (mvT hZ w1) (mvT hZ w2) (mvT hZ w3) (mvT hZ w4) hy (backOf (Q := fun v h L => Q v h ∧ Fr n0 L) (W := W) (hM []) hZ w4 w3 hfr hlo) hg hsize (argsL := argsL) (rest := rest) hlen hs hW hd (fun _ _ => ⟨rfl, eT, hc, hl⟩)
  dsimp only [Pt.U, Pt.locs, Pt.cells, Pt.slots] at X1 l1 y1 z1 st hQ
  subst l1 y1 z1
  exact own_go (fun t k => st t k) (k v T1 T1.heap ⟨_, X1, rfl, N.app N1⟩ hQ)
theorem own_callV (A : own_At p l e R s m args below meth c n0 T h cells slots) (hx : p.tables.exec = Jvm.exec) (hZ : Z.Warmed39 s.vm) {own C : String} {index : Nat} {y z : MethodName} {bytes : ByteArray} {maxL : Nat} {ret : Option FieldType} (hown : s.vm.findClass own = some m.cls)
    (w1 : (Cond.methodLink own index y).before a0 Z = true) (w2 : (Cond.declares y).before a0 Z = true) (w3 : (Cond.selects C y z).before a0 Z = true) (w4 : (Cond.instanceMethod z).before a0 Z = true) (w5 : (Cond.initialized z.cls).before a0 Z = true) (w6 : (Cond.code z bytes maxL ret).before a0 Z = true) (nf : NotFace s y)
    (hy : y.cls ≠ "java/lang/invoke/MethodHandle" ∧ y.cls ≠ "java/lang/invoke/VarHandle")
    {rm : Room} {b : Addr} {argsL rest : List Value} (E : Exa Z h b C) (hM : own_Met l Z n0 z bytes maxL ret rm (.ref b :: argsL).toArray h Q) (W : Nat) (hfr : rm.frames + 1 ≤ R.frames) (hlo : W + (maxL + 11) + rm.locals ≤ R.locals) {g : JFrame} (hg : g.method = m) (hsize : g.locals.size = c.maxLocals)
    (hlen : ∀ sig, parseMethodDescriptor y.desc = some sig → argsL.length = sig.parameters.length) (hs : g.stack = argsL.reverse ++ .ref b :: rest) (hW : 2 * g.monitorRoom + (rest.map fun v => v.category).sum ≤ W) (hd : decode c.code g.pc = .ok (.invokevirtual index, 3))
    (hc : cells + rm.cells ≤ R.cells) (hl : slots + rm.slots ≤ R.slots)
    (k : ∀ v T' h', own_At p l e R s m args below meth c n0 T' h' (cells + rm.cells) (slots + rm.slots) → Q v h' → own_Go p.tables e below G (T'.setTop { g with pc := g.pc + 3, stack := v.toList ++ rest })) : own_Go p.tables e below G (T.setTop g) := by
  obtain ⟨locs, X, eT, N⟩ := A
  obtain ⟨cq, kq, qa, qb, qc⟩ := isOf hZ eT E
  obtain ⟨v, _, ⟨T1, L1, k1, s1⟩, -, X1, ⟨Lc, ⟨hQ, N1⟩, l1, y1, z1⟩, st⟩ := X.virtualBack hx (y := y) (z := z) hown (mvT hZ w1) (mvT hZ w2) nf (mvT hZ w3) (mvT hZ w4) hy (backOf (Q := fun v h L => Q v h ∧ Fr n0 L) (W := W) (hM []) hZ w6 w5 hfr hlo) qa qc hg hsize (Steps.refl _) (argsL := argsL) (rest := rest) hlen hs hW hd (fun _ _ => ⟨rfl, eT, hc, hl⟩)
  dsimp only [Pt.U, Pt.locs, Pt.cells, Pt.slots] at X1 l1 y1 z1 st hQ
  subst l1 y1 z1
  exact own_go (fun t k => st.trans k) (k v T1 T1.heap ⟨_, X1, rfl, N.app N1⟩ hQ)
theorem own_callI (A : own_At p l e R s m args below meth c n0 T h cells slots) (hx : p.tables.exec = Jvm.exec) (hZ : Z.Warmed39 s.vm) {own : String} {index : Nat} {y : MethodName} (hy1 : y.name = "<init>") {bytes : ByteArray} {maxL : Nat} (hown : s.vm.findClass own = some m.cls)
    (w1 : (Cond.methodLink own index y).before a0 Z = true) (w4 : (Cond.instanceMethod y).before a0 Z = true) (w5 : (Cond.initialized y.cls).before a0 Z = true) (w6 : (Cond.code y bytes maxL none).before a0 Z = true)
    (hy : y.cls ≠ "java/lang/invoke/MethodHandle" ∧ y.cls ≠ "java/lang/invoke/VarHandle")
    {rm : Room} {b : Addr} {argsL rest : List Value} (hM : own_Met l Z n0 y bytes maxL none rm (.ref b :: argsL).toArray h Q) (W : Nat) (hfr : rm.frames + 1 ≤ R.frames) (hlo : W + (maxL + 11) + rm.locals ≤ R.locals) {g : JFrame} (hg : g.method = m) (hsize : g.locals.size = c.maxLocals)
    (hlen : ∀ sig, parseMethodDescriptor y.desc = some sig → argsL.length = sig.parameters.length) (hs : g.stack = argsL.reverse ++ .ref b :: rest) (hW : 2 * g.monitorRoom + (rest.map fun v => v.category).sum ≤ W) (hd : decode c.code g.pc = .ok (.invokespecial index, 3))
    (hc : cells + rm.cells ≤ R.cells) (hl : slots + rm.slots ≤ R.slots)
    (k : ∀ v T' h', own_At p l e R s m args below meth c n0 T' h' (cells + rm.cells) (slots + rm.slots) → Q v h' → own_Go p.tables e below G (T'.setTop { g with pc := g.pc + 3, stack := v.toList ++ rest })) : own_Go p.tables e below G (T.setTop g) := by
  obtain ⟨locs, X, eT, N⟩ := A
  obtain ⟨v, _, ⟨T1, L1, k1, s1⟩, -, X1, ⟨Lc, ⟨hQ, N1⟩, l1, y1, z1⟩, st⟩ := X.specialBack hx (y := y) hy1 hown (mvT hZ w1) (mvT hZ w4) (mvT hZ w6) hy (backOf (Q := fun v h L => Q v h ∧ Fr n0 L) (W := W) (hM []) hZ w6 w5 hfr hlo) hg hsize (Steps.refl _) (a := b) (argsL := argsL) (rest := rest) hlen hs hW hd (fun _ _ => ⟨rfl, eT, hc, hl⟩)
  dsimp only [Pt.U, Pt.locs, Pt.cells, Pt.slots] at X1 l1 y1 z1 st hQ
  subst l1 y1 z1
  exact own_go (fun t k => st.trans k) (k v T1 T1.heap ⟨_, X1, rfl, N.app N1⟩ hQ)
theorem own_initO (A : own_At p l e R s m args below meth c n0 T h cells slots) (hx : p.tables.exec = Jvm.exec) (hZ : Z.Warmed39 s.vm) {own : String} {idx : Nat} (hown : s.vm.findClass own = some m.cls) (w1 : (Cond.methodLink own idx Lib.objectInit).before a0 Z = true) (w2 : (Cond.instanceMethod Lib.objectInit).before a0 Z = true)
    (w3 : (Cond.code Lib.objectInit ⟨#[0xb1]⟩ 1 none).before a0 Z = true) {g : JFrame} (hg : g.method = m) (hsize : g.locals.size = c.maxLocals) {a : Addr} {rest : List Value} (hs : g.stack = .ref a :: rest) (hd : decode c.code g.pc = .ok (.invokespecial idx, 3))
    (hf : 1 ≤ R.frames) (W : Nat) (hW : 2 * g.monitorRoom + (rest.map fun v => v.category).sum ≤ W) (hl : W + 12 ≤ R.locals)
    (k : ∀ T', own_At p l e R s m args below meth c n0 T' h cells slots → own_Go p.tables e below G (T'.setTop { g with pc := g.pc + 3, stack := rest })) : own_Go p.tables e below G (T.setTop g) := by
  obtain ⟨locs, X, eT, N⟩ := A
  obtain ⟨T1, X1, e1, st⟩ := initO X hx hZ hown w1 w2 w3 eT hg hsize hs hd hf hW hl
  exact own_go st (k T1 ⟨_, X1, e1, N⟩)
theorem own_getF (A : own_At p l e R s m args below meth c n0 T h cells slots) (hx : p.tables.exec = Jvm.exec) (hZ : Z.Warmed39 s.vm) {own R0 O n d host : String} {index : Nat} (hown : s.vm.findClass own = some m.cls) (w : (Cond.fieldLink own index R0 n d).before a0 Z = true ∨ (Cond.fieldLinkNest own index R0 n d host).before a0 Z = true) (via : Via Z R0 O n d)
    {a : Addr} {v : Value} (F : Fld Z h a O n d v) {g : JFrame} (hg : g.method = m) {rest : List Value} (hs : g.stack = .ref a :: rest) (hd : decode c.code g.pc = .ok (.getfield index, 3))
    (k : ∀ T', own_At p l e R s m args below meth c n0 T' h cells slots → own_Go p.tables e below G (T'.setTop { g with pc := g.pc + 3, stack := v :: rest })) : own_Go p.tables e below G (T.setTop g) := by
  obtain ⟨locs, X, eT, N⟩ := A
  obtain ⟨T1, X1, e1, st⟩ := getF X hx hZ hown w via eT F hg hs hd
  exact own_go st (k T1 ⟨_, X1, e1, N⟩)
theorem own_getS (A : own_At p l e R s m args below meth c n0 T h cells slots) (hx : p.tables.exec = Jvm.exec) (hZ : Z.Warmed39 s.vm) {own R0 O n d host : String} {index : Nat} (hown : s.vm.findClass own = some m.cls) (w : (Cond.fieldLink own index R0 n d).before a0 Z = true ∨ (Cond.fieldLinkNest own index R0 n d host).before a0 Z = true) (via : Via Z R0 O n d)
    {v : Value} (F : Sta Z h O n d v) {g : JFrame} (hg : g.method = m) (hd : decode c.code g.pc = .ok (.getstatic index, 3))
    (k : ∀ T', own_At p l e R s m args below meth c n0 T' h cells slots → own_Go p.tables e below G (T'.setTop { g with pc := g.pc + 3, stack := v :: g.stack })) : own_Go p.tables e below G (T.setTop g) := by
  obtain ⟨locs, X, eT, N⟩ := A
  obtain ⟨T1, X1, e1, st⟩ := getS2 X hx hZ hown w via eT F hg hd
  exact own_go st (k T1 ⟨_, X1, e1, N⟩)
theorem own_ldcI (A : own_At p l e R s m args below meth c n0 T h cells slots) (hx : p.tables.exec = Jvm.exec) (hZ : Z.Warmed39 s.vm) {own : String} {index : Nat} {v : Int32} (hown : s.vm.findClass own = some m.cls) (w : (Cond.constant own index v).before a0 Z = true) {g : JFrame} (hg : g.method = m) (hd : decode c.code g.pc = .ok (.ldc index, 2))
    (k : own_Go p.tables e below G (T.setTop { g with pc := g.pc + 2, stack := .int v :: g.stack })) : own_Go p.tables e below G (T.setTop g) := by
  obtain ⟨locs, X, eT, N⟩ := A
  exact own_go (X.ldcInt hx hown (mvT hZ w) hg hd) k
theorem own_ldcwI (A : own_At p l e R s m args below meth c n0 T h cells slots) (hx : p.tables.exec = Jvm.exec) (hZ : Z.Warmed39 s.vm) {own : String} {index : Nat} {v : Int32} (hown : s.vm.findClass own = some m.cls) (w : (Cond.constant own index v).before a0 Z = true) {g : JFrame} (hg : g.method = m) (hd : decode c.code g.pc = .ok (.ldc_w index, 3))
    (k : own_Go p.tables e below G (T.setTop { g with pc := g.pc + 3, stack := .int v :: g.stack })) : own_Go p.tables e below G (T.setTop g) := by
  obtain ⟨locs, X, eT, N⟩ := A
  exact own_go (X.ldcwInt hx hown (mvT hZ w) hg hd) k
theorem own_ldcJ (A : own_At p l e R s m args below meth c n0 T h cells slots) (hx : p.tables.exec = Jvm.exec) (hZ : Z.Warmed39 s.vm) {own : String} {index : Nat} {v : Int64} (hown : s.vm.findClass own = some m.cls) (w : (Cond.constantLong own index v).before a0 Z = true) {g : JFrame} (hg : g.method = m) (hd : decode c.code g.pc = .ok (.ldc2_w index, 3))
    (k : own_Go p.tables e below G (T.setTop { g with pc := g.pc + 3, stack := .long v :: g.stack })) : own_Go p.tables e below G (T.setTop g) := by
  obtain ⟨locs, X, eT, N⟩ := A
  exact own_go (X.ldc2Long hx hown (mvT hZ w) hg hd) k
/-- irem, with Java's sign -/
theorem own_irem {tb : Tables} [Ours tb] {target : State} {g : JFrame} (hh : At T m c below) (hx : tb.exec = Jvm.exec) (hg : g.method = m) {x y : Int32} {rest : List Value} (hd : decode c.code g.pc = .ok (.irem, 1)) (hs : g.stack = .int y :: .int x :: rest) (hy : y ≠ 0)
    (hr : Steps tb e below (T.setTop { g with pc := g.pc + 1, stack := .int (x % y) :: rest }) target) : Steps tb e below (T.setTop g) target :=
  XS.irem hh hx hg hd hs hy (by rw [irem_eq_mod]; exact hr)
theorem own_lrem {tb : Tables} [Ours tb] {target : State} {g : JFrame} (hh : At T m c below) (hx : tb.exec = Jvm.exec) (hg : g.method = m) {x y : Int64} {rest : List Value} (hd : decode c.code g.pc = .ok (.lrem, 1)) (hs : g.stack = .long y :: .long x :: rest) (hy : y ≠ 0)
    (hr : Steps tb e below (T.setTop { g with pc := g.pc + 1, stack := .long (x % y) :: rest }) target) : Steps tb e below (T.setTop g) target :=
  XS.lrem hh hx hg hd hs hy (by rw [lrem_mod]; exact hr)
theorem own_aeq {a b : Addr} (h : a = b) : if_acmp.holds .eq (some a) (some b) = true ∧ if_acmp.holds .ne (some a) (some b) = false := by simp [if_acmp.holds, h]
theorem own_ane {a b : Addr} (h : ¬ a = b) : if_acmp.holds .eq (some a) (some b) = false ∧ if_acmp.holds .ne (some a) (some b) = true := by simp [if_acmp.holds, h]
end OwnKit
section OwnHeap
variable {p : Program} {l : Launch} {e : Env} {R : Room} {s : State} {m : MethodId} {args : Array Value} {below : List Frame} {meth : Method} {c : Code} {T : State} {cells slots : Nat} {Z : State} {a0 : Array Value} {h h' : Heap} {n0 : Nat} {G : State → Outcome → Prop} {a b : Addr} {ty : FieldType} {n j : Int32} {f : Int32 → Int32}
/-- an array of ints (bytes, chars, booleans, shorts): its length is n, its place i holds f i -/
def own_Arr (Z : State) (h : Heap) (a : Addr) (ty : FieldType) (n : Int32) (f : Int32 → Int32) : Prop :=
  ∃ cl : Cell, Arr Z h a cl ty ∧ cl.slots.size = n.toNatClampNeg ∧ ¬ n < 0 ∧ ∀ j : Int32, ¬ j < 0 → j < n → cl.slots[j.toNatClampNeg]? = some (.int (f j))
theorem own_Arr.lt (F : own_Arr Z h a ty n f) : a < h.size := by obtain ⟨_, A, -⟩ := F; exact A.lt
theorem own_Arr.ext (F : own_Arr Z h a ty n f) (E : Ext h h') : own_Arr Z h' a ty n f := by obtain ⟨c, A, r⟩ := F; exact ⟨c, A.ext E, r⟩
theorem own_Arr.other {sl : Nat} {v : Value} (F : own_Arr Z h b ty n f) (W : Wr h h' a sl v) (q : b ≠ a) : own_Arr Z h' b ty n f := by obtain ⟨c, A, r⟩ := F; exact ⟨c, A.other W q, r⟩
theorem own_Arr.keep {ws : List Addr} (F : own_Arr Z h a ty n f) (K : Keep h h' ws) (q : a ∉ ws) : own_Arr Z h' a ty n f := by obtain ⟨c, A, r⟩ := F; exact ⟨c, ⟨K.2.1 a c A.1 q, A.2⟩, r⟩
theorem own_Arr.nn (F : own_Arr Z h a ty n f) : ¬ n < 0 := by obtain ⟨_, -, -, q, -⟩ := F; exact q
theorem own_Arr.congr {f' : Int32 → Int32} (F : own_Arr Z h a ty n f) (q : ∀ i, ¬ i < 0 → i < n → f i = f' i) : own_Arr Z h a ty n f' := by
  obtain ⟨c, A, r1, r2, r3⟩ := F
  exact ⟨c, A, r1, r2, fun i hi hn => by rw [r3 i hi hn, q i hi hn]⟩
theorem own_same {i j : Int32} (hi : ¬ i < 0) (hj : ¬ j < 0) (e : i.toNatClampNeg = j.toNatClampNeg) : i = j := by
  apply Int32.toInt_inj.mp
  rw [nat_of hi, nat_of hj, e]
theorem own_Arr.set {v : Int32} (F : own_Arr Z h a ty n f) (hj : ¬ j < 0) (W : Wr h h' a j.toNatClampNeg (.int v)) : own_Arr Z h' a ty n (fun i => if i = j then v else f i) := by
  obtain ⟨c, A, r1, r2, r3⟩ := F
  refine ⟨c.setSlot j.toNatClampNeg (.int v), A.same W, by rw [sz_set]; exact r1, r2, fun i hi hn => ?_⟩
  have hin := inb_of r1 ⟨hi, hn⟩
  by_cases q : i = j
  · subst q
    show _ = some (Value.int (if i = i then v else f i))
    rw [get_hit hin rfl, if_pos rfl]
  · show _ = some (Value.int (if i = j then v else f i))
    rw [get_miss hj hi q, r3 i hi hn, if_neg q]
theorem own_newO (A : own_At p l e R s m args below meth c n0 T h cells slots) (hx : p.tables.exec = Jvm.exec) (hZ : Z.Warmed39 s.vm) {own C : String} {index k : Nat} (hown : s.vm.findClass own = some m.cls) (w : (Cond.classLink own index C).before a0 Z = true) (wi : (Cond.instantiable C k).before a0 Z = true) (wz : (Cond.initialized C).before a0 Z = true)
    {g : JFrame} (hg : g.method = m) (hd : decode c.code g.pc = .ok (.new index, 3)) (hc : cells + 1 ≤ R.cells) (hl : slots + k ≤ R.slots)
    (kk : ∀ T' h' a, a = h.size → own_At p l e R s m args below meth c n0 T' h' (cells + 1) (slots + k) → Ext h h' → Exa Z h' a C → (∀ {O nm d : String} {ty : FieldType}, Laid Z a0 C O nm d → parseFieldDescriptor d = some ty → Fld Z h' a O nm d (defaultValue ty)) → own_Go p.tables e below G (T'.setTop { g with pc := g.pc + 3, stack := .ref a :: g.stack })) : own_Go p.tables e below G (T.setTop g) := by
  obtain ⟨locs, X, eT, N⟩ := A
  obtain ⟨T1, h1, X1, e1, E1, A1, D1, -, st⟩ := newO X hx hZ hown w wi wz eT hg hd hc hl
  exact own_go st (kk T1 h1 h.size rfl ⟨_, X1, e1, N⟩ E1 A1 D1)
theorem own_newP (A : own_At p l e R s m args below meth c n0 T h cells slots) (hx : p.tables.exec = Jvm.exec) (hZ : Z.Warmed39 s.vm) {aty : ArrayType} (w : (Cond.arrayClass (newarray.typeOf aty)).before a0 Z = true) (hty : defaultValue (newarray.typeOf aty) = .int 0) {g : JFrame} (hg : g.method = m) (hd : decode c.code g.pc = .ok (.newarray aty, 2)) {rest : List Value} (hs : g.stack = .int n :: rest)
    (hn : ¬ n < 0) (cap : Nat) (hcap : n.toNatClampNeg ≤ cap) (hb : cap * 8 ≤ 536870912) (hc : cells + 1 ≤ R.cells) (hl : slots + cap ≤ R.slots)
    (kk : ∀ T' h' a, a = h.size → own_At p l e R s m args below meth c n0 T' h' (cells + 1) (slots + cap) → Ext h h' → own_Arr Z h' a (newarray.typeOf aty) n (fun _ => 0) → (∃ k, Arv Z h' a k (newarray.typeOf aty) n [] (.int 0)) → own_Go p.tables e below G (T'.setTop { g with pc := g.pc + 2, stack := .ref a :: rest })) : own_Go p.tables e below G (T.setTop g) := by
  obtain ⟨locs, X, eT, N⟩ := A
  obtain ⟨T1, h1, k1, X1, e1, E1, A1, st⟩ := newP X hx hZ w eT hg hd hs hn hcap hb hc hl
  refine own_go st (kk T1 h1 h.size rfl ⟨_, X1, e1, N⟩ E1 ⟨_, A1, sz_new _ _ _, hn, fun i hi hin => ?_⟩ ⟨k1, hty ▸ Arv.new A1 hn⟩)
  have q := inb_of (c := newA k1 (newarray.typeOf aty) n) (sz_new _ _ _) ⟨hi, hin⟩
  rw [sz_new] at q
  rw [get_new q, hty]
theorem own_putF (A : own_At p l e R s m args below meth c n0 T h cells slots) (hx : p.tables.exec = Jvm.exec) (hZ : Z.Warmed39 s.vm) {own R0 O nm d host C : String} {index kk : Nat} (hown : s.vm.findClass own = some m.cls) (w : (Cond.fieldLink own index R0 nm d).before a0 Z = true ∨ (Cond.fieldLinkNest own index R0 nm d host).before a0 Z = true) (via : Via Z R0 O nm d)
    {v old : Value} (F : Fld Z h a O nm d old) (E : Exa Z h a C) (L : (Cond.lays C O nm d).before a0 Z = true ∨ ((Cond.laysFinal C O nm d).before a0 Z = true ∧ own = O ∧ meth.name = "<init>")) (wi : (Cond.instantiable C kk).before a0 Z = true)
    (hty : parseFieldDescriptor d = some ty) (hn : narrow ty v = v) (hf : fits ty v = true) (q : n0 ≤ a) {g : JFrame} (hg : g.method = m) {rest : List Value} (hs : g.stack = v :: .ref a :: rest) (hd : decode c.code g.pc = .ok (.putfield index, 3))
    (k : ∀ T' h', own_At p l e R s m args below meth c n0 T' h' cells slots → Wr h h' a (Jvm.RoadKit.slotOf Z O nm d) v → own_Go p.tables e below G (T'.setTop { g with pc := g.pc + 3, stack := rest })) : own_Go p.tables e below G (T.setTop g) := by
  obtain ⟨locs, X, eT, N⟩ := A
  obtain ⟨T1, h1, X1, e1, W1, st⟩ := putF X hx hZ hown w via eT F E L wi hty hn hf hg hs hd
  exact own_go st (k T1 h1 ⟨_, X1, e1, Fr.snoc X1 N q⟩ W1)
theorem own_stI (A : own_At p l e R s m args below meth c n0 T h cells slots) (hx : p.tables.exec = Jvm.exec) (hZ : Z.Warmed39 s.vm) {v : Int32} (F : own_Arr Z h a .int n f) (hj : ¬ j < 0 ∧ j < n) (q : n0 ≤ a) {g : JFrame} (hg : g.method = m) {rest : List Value} (hs : g.stack = .int v :: .int j :: .ref a :: rest) (hd : decode c.code g.pc = .ok (.iastore, 1))
    (k : ∀ T' h', own_At p l e R s m args below meth c n0 T' h' cells slots → Wr h h' a j.toNatClampNeg (.int v) → own_Arr Z h' a .int n (fun i => if i = j then v else f i) → own_Go p.tables e below G (T'.setTop { g with pc := g.pc + 1, stack := rest })) : own_Go p.tables e below G (T.setTop g) := by
  obtain ⟨locs, X, eT, N⟩ := A
  obtain ⟨c1, A1, S1, M1, H1⟩ := id F
  obtain ⟨T1, h1, X1, e1, W1, st⟩ := stI X hx hZ eT A1 (inb_of S1 hj) hg hs hd
  exact own_go st (k T1 h1 ⟨_, X1, e1, Fr.snoc X1 N q⟩ W1 (F.set hj.1 W1))
theorem own_stB (A : own_At p l e R s m args below meth c n0 T h cells slots) (hx : p.tables.exec = Jvm.exec) (hZ : Z.Warmed39 s.vm) {v : Int32} (F : own_Arr Z h a .byte n f) (hj : ¬ j < 0 ∧ j < n) (q : n0 ≤ a) {g : JFrame} (hg : g.method = m) {rest : List Value} (hs : g.stack = .int v :: .int j :: .ref a :: rest) (hd : decode c.code g.pc = .ok (.bastore, 1))
    (k : ∀ T' h', own_At p l e R s m args below meth c n0 T' h' cells slots → Wr h h' a j.toNatClampNeg (.int (nar .byte v)) → own_Arr Z h' a .byte n (fun i => if i = j then nar .byte v else f i) → own_Go p.tables e below G (T'.setTop { g with pc := g.pc + 1, stack := rest })) : own_Go p.tables e below G (T.setTop g) := by
  obtain ⟨locs, X, eT, N⟩ := A
  obtain ⟨c1, A1, S1, M1, H1⟩ := id F
  obtain ⟨T1, h1, X1, e1, W1, st⟩ := stB X hx hZ eT A1 (inb_of S1 hj) hg hs hd
  exact own_go st (k T1 h1 ⟨_, X1, e1, Fr.snoc X1 N q⟩ W1 (F.set hj.1 W1))
theorem own_stC (A : own_At p l e R s m args below meth c n0 T h cells slots) (hx : p.tables.exec = Jvm.exec) (hZ : Z.Warmed39 s.vm) {v : Int32} (F : own_Arr Z h a .char n f) (hj : ¬ j < 0 ∧ j < n) (q : n0 ≤ a) {g : JFrame} (hg : g.method = m) {rest : List Value} (hs : g.stack = .int v :: .int j :: .ref a :: rest) (hd : decode c.code g.pc = .ok (.castore, 1))
    (k : ∀ T' h', own_At p l e R s m args below meth c n0 T' h' cells slots → Wr h h' a j.toNatClampNeg (.int (nar .char v)) → own_Arr Z h' a .char n (fun i => if i = j then nar .char v else f i) → own_Go p.tables e below G (T'.setTop { g with pc := g.pc + 1, stack := rest })) : own_Go p.tables e below G (T.setTop g) := by
  obtain ⟨locs, X, eT, N⟩ := A
  obtain ⟨c1, A1, S1, M1, H1⟩ := id F
  obtain ⟨T1, h1, X1, e1, W1, st⟩ := stC X hx hZ eT A1 (inb_of S1 hj) hg hs hd
  exact own_go st (k T1 h1 ⟨_, X1, e1, Fr.snoc X1 N q⟩ W1 (F.set hj.1 W1))
theorem own_ldI (A : own_At p l e R s m args below meth c n0 T h cells slots) (hx : p.tables.exec = Jvm.exec) (hZ : Z.Warmed39 s.vm) (F : own_Arr Z h a .int n f) (hj : ¬ j < 0 ∧ j < n) {g : JFrame} (hg : g.method = m) {rest : List Value} (hs : g.stack = .int j :: .ref a :: rest) (hd : decode c.code g.pc = .ok (.iaload, 1))
    (k : own_Go p.tables e below G (T.setTop { g with pc := g.pc + 1, stack := .int (f j) :: rest })) : own_Go p.tables e below G (T.setTop g) := by
  obtain ⟨locs, X, eT, N⟩ := A
  obtain ⟨c1, A1, S1, M1, H1⟩ := F
  exact own_go (fun t k => X.iaload hx (by rw [eT]; exact A1.1) (State.isArrayOf_alike hZ.alike A1.2.1) A1.2.2 (inb_of S1 hj) (H1 j hj.1 hj.2) hg hs hd t k) k
theorem own_ldB (A : own_At p l e R s m args below meth c n0 T h cells slots) (hx : p.tables.exec = Jvm.exec) (hZ : Z.Warmed39 s.vm) (F : own_Arr Z h a .byte n f) (hj : ¬ j < 0 ∧ j < n) {g : JFrame} (hg : g.method = m) {rest : List Value} (hs : g.stack = .int j :: .ref a :: rest) (hd : decode c.code g.pc = .ok (.baload, 1))
    (k : own_Go p.tables e below G (T.setTop { g with pc := g.pc + 1, stack := .int (f j) :: rest })) : own_Go p.tables e below G (T.setTop g) := by
  obtain ⟨locs, X, eT, N⟩ := A
  obtain ⟨c1, A1, S1, M1, H1⟩ := F
  exact own_go (fun t k => X.baloadBytes hx (by rw [eT]; exact A1.1) (State.isArrayOf_alike hZ.alike A1.2.1) A1.2.2 (inb_of S1 hj) (H1 j hj.1 hj.2) hg hs hd t k) k
theorem own_ldC (A : own_At p l e R s m args below meth c n0 T h cells slots) (hx : p.tables.exec = Jvm.exec) (hZ : Z.Warmed39 s.vm) (F : own_Arr Z h a .char n f) (hj : ¬ j < 0 ∧ j < n) {g : JFrame} (hg : g.method = m) {rest : List Value} (hs : g.stack = .int j :: .ref a :: rest) (hd : decode c.code g.pc = .ok (.caload, 1))
    (k : own_Go p.tables e below G (T.setTop { g with pc := g.pc + 1, stack := .int (f j) :: rest })) : own_Go p.tables e below G (T.setTop g) := by
  obtain ⟨locs, X, eT, N⟩ := A
  obtain ⟨c1, A1, S1, M1, H1⟩ := F
  exact own_go (fun t k => X.caload hx (by rw [eT]; exact A1.1) (State.isArrayOf_alike hZ.alike A1.2.1) A1.2.2 (inb_of S1 hj) (H1 j hj.1 hj.2) hg hs hd t k) k
theorem own_len (A : own_At p l e R s m args below meth c n0 T h cells slots) (hx : p.tables.exec = Jvm.exec) (hZ : Z.Warmed39 s.vm) (F : own_Arr Z h a ty n f) {g : JFrame} (hg : g.method = m) {rest : List Value} (hs : g.stack = .ref a :: rest) (hd : decode c.code g.pc = .ok (.arraylength, 1))
    (k : own_Go p.tables e below G (T.setTop { g with pc := g.pc + 1, stack := .int n :: rest })) : own_Go p.tables e below G (T.setTop g) := by
  obtain ⟨locs, X, eT, N⟩ := A
  obtain ⟨c1, A1, S1, M1, H1⟩ := F
  rw [← len_of S1 M1] at k
  exact own_go (fun t k => X.arraylength hx (by rw [eT]; exact A1.1) (State.isArrayOf_alike hZ.alike A1.2.1) hg hs hd t k) k
end OwnHeap
theorem ef_2 (m : MethodId) (r0 : Addr) : entryFrame m #[(.ref r0)] 1 = mkF m 0 #[.val (.ref r0)] [] := by first | (simp [entryFrame, mkF, argsToLocals, Value.category]; done) | rfl
theorem pn_2 : plainName "java/lang/Record" = true := by first | (simp [plainName, overriddenIn]; done) | decide +kernel
theorem d2_0 : decode jdk_30_method_1_code 0 = .ok (.aload_n 0, 1) := by decide +kernel
theorem d2_1 : decode jdk_30_method_1_code 1 = .ok (.invokespecial 1, 3) := by decide +kernel
theorem d2_4 : decode jdk_30_method_1_code 4 = .ok (.return_, 1) := by decide +kernel
set_option maxRecDepth 65536 in
set_option maxHeartbeats 40000000 in
theorem rm2 (l : Launch) (Z : State) (a0 : Array Value) (hw : ∀ d ∈ tables_1, d.before a0 Z = true) (r0 : Addr) (h0 : Heap) (n0 : Nat) :
    own_Met l Z n0 (⟨"java/lang/Record", "<init>", "()V"⟩ : MethodName) jdk_30_method_1_code 1 none ({ frames := 1, cells := 0, slots := 0, locals := 12 } : Room) #[(.ref r0)] h0 (fun v h => v = none ∧ h0 = h) := by
  refine own_met (plainFor_of_name pn_2) ?_
  intro p e s m below meth c T0 hx hby hml hown hnm hret hlk hZ A0
  rw [ef_2]
  show own_Go _ _ _ _ (T0.setTop (mkF m 0 #[.val (.ref r0)] []))
  refine own_go (fun t k => XS.aloadN A0.here hx rfl (hb hby d2_0) rfl rfl k) ?_
  show own_Go _ _ _ _ (T0.setTop (mkF m 1 #[.val (.ref r0)] [(.ref r0)]))
  refine own_initO A0 hx hZ hown (hw _ (List.mem_of_getElem? (i := 11) rfl)) (hw _ (List.mem_of_getElem? (i := 12) rfl)) (hw _ (List.mem_of_getElem? (i := 13) rfl)) rfl (by rw [hml]; rfl) rfl (hb hby d2_1) (by decide) 0 (by show 2 * 0 + _ ≤ _; exact Nat.le_of_eq rfl) (by decide) (fun T1 A2 => ?_)
  show own_Go _ _ _ _ (T1.setTop (mkF m 4 #[.val (.ref r0)] []))
  refine own_retV A2 hx hret hlk (by decide) (by decide) (hb hby d2_4) ?_
  exact ⟨rfl, rfl⟩
theorem ef_1 (m : MethodId) (r0 : Addr) (p1 : Int32) (p2 : Int32) (p3 : Int32) (p4 : Int32) (p5 : Int32) : entryFrame m #[(.ref r0), (.int p1), (.int p2), (.int p3), (.int p4), (.int p5)] 6 = mkF m 0 #[.val (.ref r0), .val (.int p1), .val (.int p2), .val (.int p3), .val (.int p4), .val (.int p5)] [] := by first | (simp [entryFrame, mkF, argsToLocals, Value.category]; done) | rfl
theorem pn_1 : plainName "com/example/bounded_commute/boundedcommute/engine/BoardingGroup" = true := by first | (simp [plainName, overriddenIn]; done) | decide +kernel
theorem d1_0 : decode prog_3_method_1_code 0 = .ok (.aload_n 0, 1) := by decide +kernel
theorem d1_1 : decode prog_3_method_1_code 1 = .ok (.invokespecial 1, 3) := by decide +kernel
theorem pd___V : parseMethodDescriptor "()V" = some ⟨[], none⟩ := by decide +kernel
theorem d1_4 : decode prog_3_method_1_code 4 = .ok (.aload_n 0, 1) := by decide +kernel
theorem d1_5 : decode prog_3_method_1_code 5 = .ok (.iload_n 1, 1) := by decide +kernel
theorem d1_6 : decode prog_3_method_1_code 6 = .ok (.putfield 7, 3) := by decide +kernel
theorem d1_9 : decode prog_3_method_1_code 9 = .ok (.aload_n 0, 1) := by decide +kernel
theorem d1_10 : decode prog_3_method_1_code 10 = .ok (.iload_n 2, 1) := by decide +kernel
theorem d1_11 : decode prog_3_method_1_code 11 = .ok (.putfield 13, 3) := by decide +kernel
theorem d1_14 : decode prog_3_method_1_code 14 = .ok (.aload_n 0, 1) := by decide +kernel
theorem d1_15 : decode prog_3_method_1_code 15 = .ok (.iload_n 3, 1) := by decide +kernel
theorem d1_16 : decode prog_3_method_1_code 16 = .ok (.putfield 16, 3) := by decide +kernel
theorem d1_19 : decode prog_3_method_1_code 19 = .ok (.aload_n 0, 1) := by decide +kernel
theorem d1_20 : decode prog_3_method_1_code 20 = .ok (.iload 4, 2) := by decide +kernel
theorem d1_22 : decode prog_3_method_1_code 22 = .ok (.putfield 19, 3) := by decide +kernel
theorem d1_25 : decode prog_3_method_1_code 25 = .ok (.aload_n 0, 1) := by decide +kernel
theorem d1_26 : decode prog_3_method_1_code 26 = .ok (.iload 5, 2) := by decide +kernel
theorem d1_28 : decode prog_3_method_1_code 28 = .ok (.putfield 22, 3) := by decide +kernel
theorem d1_31 : decode prog_3_method_1_code 31 = .ok (.return_, 1) := by decide +kernel
set_option maxRecDepth 65536 in
set_option maxHeartbeats 40000000 in
theorem rm1 (l : Launch) (Z : State) (a0 : Array Value) (hw : ∀ d ∈ tables_1, d.before a0 Z = true) (r0 : Addr) (p1 : Int32) (p2 : Int32) (p3 : Int32) (p4 : Int32) (p5 : Int32) (h0 : Heap) (n0 : Nat) (E0 : Exa Z h0 r0 "com/example/bounded_commute/boundedcommute/engine/BoardingGroup") (g0 : n0 ≤ r0) (F0_station : Fld Z h0 r0 "com/example/bounded_commute/boundedcommute/engine/BoardingGroup" "station" "I" (.int (0 : Int32))) (F0_type : Fld Z h0 r0 "com/example/bounded_commute/boundedcommute/engine/BoardingGroup" "type" "I" (.int (0 : Int32))) (F0_chosenBus : Fld Z h0 r0 "com/example/bounded_commute/boundedcommute/engine/BoardingGroup" "chosenBus" "I" (.int (0 : Int32))) (F0_boardedBus : Fld Z h0 r0 "com/example/bounded_commute/boundedcommute/engine/BoardingGroup" "boardedBus" "I" (.int (0 : Int32))) (F0_riders : Fld Z h0 r0 "com/example/bounded_commute/boundedcommute/engine/BoardingGroup" "riders" "I" (.int (0 : Int32))) :
    own_Met l Z n0 (⟨"com/example/bounded_commute/boundedcommute/engine/BoardingGroup", "<init>", "(IIIII)V"⟩ : MethodName) prog_3_method_1_code 6 none ({ frames := 2, cells := 0, slots := 0, locals := 24 } : Room) #[(.ref r0), (.int p1), (.int p2), (.int p3), (.int p4), (.int p5)] h0 (fun v h => v = none ∧ Keep h0 h [r0] ∧ Fld Z h r0 "com/example/bounded_commute/boundedcommute/engine/BoardingGroup" "boardedBus" "I" (.int p4)) := by
  refine own_met (plainFor_of_name pn_1) ?_
  intro p e s m below meth c T0 hx hby hml hown hnm hret hlk hZ A0
  rw [ef_1]
  show own_Go _ _ _ _ (T0.setTop (mkF m 0 #[.val (.ref r0), .val (.int p1), .val (.int p2), .val (.int p3), .val (.int p4), .val (.int p5)] []))
  refine own_go (fun t k => XS.aloadN A0.here hx rfl (hb hby d1_0) rfl rfl k) ?_
  show own_Go _ _ _ _ (T0.setTop (mkF m 1 #[.val (.ref r0), .val (.int p1), .val (.int p2), .val (.int p3), .val (.int p4), .val (.int p5)] [(.ref r0)]))
  refine own_callI A0 hx hZ (y := (⟨"java/lang/Record", "<init>", "()V"⟩ : MethodName)) rfl hown (hw _ (List.mem_of_getElem? (i := 6) rfl)) (hw _ (List.mem_of_getElem? (i := 7) rfl)) (hw _ (List.mem_of_getElem? (i := 9) rfl)) (hw _ (List.mem_of_getElem? (i := 10) rfl)) (by decide) (b := r0) (argsL := []) (rest := []) (rm2 l Z a0 hw r0 h0 n0 ) 0 (by decide) (by decide) rfl (by rw [hml]; rfl) (lenOf pd___V rfl) rfl (by show 2 * 0 + _ ≤ _; exact Nat.le_of_eq rfl) (hb hby d1_1) (by decide) (by decide) (fun v4 T1 h3 A2 hQ5 => ?_)
  obtain ⟨rfl, rfl⟩ := hQ5
  show own_Go _ _ _ _ (T1.setTop (mkF m 4 #[.val (.ref r0), .val (.int p1), .val (.int p2), .val (.int p3), .val (.int p4), .val (.int p5)] []))
  refine own_go (fun t k => XS.aloadN A2.here hx rfl (hb hby d1_4) rfl rfl k) ?_
  show own_Go _ _ _ _ (T1.setTop (mkF m 5 #[.val (.ref r0), .val (.int p1), .val (.int p2), .val (.int p3), .val (.int p4), .val (.int p5)] [(.ref r0)]))
  refine own_go (fun t k => XS.iloadN A2.here hx rfl (hb hby d1_5) rfl k) ?_
  show own_Go _ _ _ _ (T1.setTop (mkF m 6 #[.val (.ref r0), .val (.int p1), .val (.int p2), .val (.int p3), .val (.int p4), .val (.int p5)] [(.int p1), (.ref r0)]))
  refine own_putF A2 hx hZ hown (host := "") (Or.inl (hw _ (List.mem_of_getElem? (i := 14) rfl))) Via.refl F0_station E0 (Or.inr ⟨(hw _ (List.mem_of_getElem? (i := 15) rfl)), rfl, hnm⟩) (hw _ (List.mem_of_getElem? (i := 1) rfl)) (ty := .int) (by decide) rfl rfl g0 rfl rfl (hb hby d1_6) (fun T6 h8 A7 W9 => ?_)
  have E10 : Exa Z h8 r0 "com/example/bounded_commute/boundedcommute/engine/BoardingGroup" := E0.wr W9
  have K11 : Keep h0 h8 [r0] := (Keep.refl h0 [r0]).wr W9 (Or.inl (List.mem_of_getElem? (i := 0) rfl))
  have F12 : Fld Z h8 r0 "com/example/bounded_commute/boundedcommute/engine/BoardingGroup" "station" "I" (.int p1) := F0_station.same W9
  have F13 : Fld Z h8 r0 "com/example/bounded_commute/boundedcommute/engine/BoardingGroup" "type" "I" (.int (0 : Int32)) := F0_type.other W9 (Or.inr (slot_ne (Or.inr (hw _ (List.mem_of_getElem? (i := 17) rfl))) (Or.inr (hw _ (List.mem_of_getElem? (i := 15) rfl))) (by decide) (t := .int) (t' := .int) (by decide) (by decide)))
  have F14 : Fld Z h8 r0 "com/example/bounded_commute/boundedcommute/engine/BoardingGroup" "chosenBus" "I" (.int (0 : Int32)) := F0_chosenBus.other W9 (Or.inr (slot_ne (Or.inr (hw _ (List.mem_of_getElem? (i := 19) rfl))) (Or.inr (hw _ (List.mem_of_getElem? (i := 15) rfl))) (by decide) (t := .int) (t' := .int) (by decide) (by decide)))
  have F15 : Fld Z h8 r0 "com/example/bounded_commute/boundedcommute/engine/BoardingGroup" "boardedBus" "I" (.int (0 : Int32)) := F0_boardedBus.other W9 (Or.inr (slot_ne (Or.inr (hw _ (List.mem_of_getElem? (i := 21) rfl))) (Or.inr (hw _ (List.mem_of_getElem? (i := 15) rfl))) (by decide) (t := .int) (t' := .int) (by decide) (by decide)))
  have F16 : Fld Z h8 r0 "com/example/bounded_commute/boundedcommute/engine/BoardingGroup" "riders" "I" (.int (0 : Int32)) := F0_riders.other W9 (Or.inr (slot_ne (Or.inr (hw _ (List.mem_of_getElem? (i := 23) rfl))) (Or.inr (hw _ (List.mem_of_getElem? (i := 15) rfl))) (by decide) (t := .int) (t' := .int) (by decide) (by decide)))
  show own_Go _ _ _ _ (T6.setTop (mkF m 9 #[.val (.ref r0), .val (.int p1), .val (.int p2), .val (.int p3), .val (.int p4), .val (.int p5)] []))
  refine own_go (fun t k => XS.aloadN A7.here hx rfl (hb hby d1_9) rfl rfl k) ?_
  show own_Go _ _ _ _ (T6.setTop (mkF m 10 #[.val (.ref r0), .val (.int p1), .val (.int p2), .val (.int p3), .val (.int p4), .val (.int p5)] [(.ref r0)]))
  refine own_go (fun t k => XS.iloadN A7.here hx rfl (hb hby d1_10) rfl k) ?_
  show own_Go _ _ _ _ (T6.setTop (mkF m 11 #[.val (.ref r0), .val (.int p1), .val (.int p2), .val (.int p3), .val (.int p4), .val (.int p5)] [(.int p2), (.ref r0)]))
  refine own_putF A7 hx hZ hown (host := "") (Or.inl (hw _ (List.mem_of_getElem? (i := 16) rfl))) Via.refl F13 E10 (Or.inr ⟨(hw _ (List.mem_of_getElem? (i := 17) rfl)), rfl, hnm⟩) (hw _ (List.mem_of_getElem? (i := 1) rfl)) (ty := .int) (by decide) rfl rfl g0 rfl rfl (hb hby d1_11) (fun T17 h19 A18 W20 => ?_)
  have E21 : Exa Z h19 r0 "com/example/bounded_commute/boundedcommute/engine/BoardingGroup" := E10.wr W20
  have K22 : Keep h0 h19 [r0] := K11.wr W20 (Or.inl (List.mem_of_getElem? (i := 0) rfl))
  have F23 : Fld Z h19 r0 "com/example/bounded_commute/boundedcommute/engine/BoardingGroup" "station" "I" (.int p1) := F12.other W20 (Or.inr (slot_ne (Or.inr (hw _ (List.mem_of_getElem? (i := 15) rfl))) (Or.inr (hw _ (List.mem_of_getElem? (i := 17) rfl))) (by decide) (t := .int) (t' := .int) (by decide) (by decide)))
  have F24 : Fld Z h19 r0 "com/example/bounded_commute/boundedcommute/engine/BoardingGroup" "type" "I" (.int p2) := F13.same W20
  have F25 : Fld Z h19 r0 "com/example/bounded_commute/boundedcommute/engine/BoardingGroup" "chosenBus" "I" (.int (0 : Int32)) := F14.other W20 (Or.inr (slot_ne (Or.inr (hw _ (List.mem_of_getElem? (i := 19) rfl))) (Or.inr (hw _ (List.mem_of_getElem? (i := 17) rfl))) (by decide) (t := .int) (t' := .int) (by decide) (by decide)))
  have F26 : Fld Z h19 r0 "com/example/bounded_commute/boundedcommute/engine/BoardingGroup" "boardedBus" "I" (.int (0 : Int32)) := F15.other W20 (Or.inr (slot_ne (Or.inr (hw _ (List.mem_of_getElem? (i := 21) rfl))) (Or.inr (hw _ (List.mem_of_getElem? (i := 17) rfl))) (by decide) (t := .int) (t' := .int) (by decide) (by decide)))
  have F27 : Fld Z h19 r0 "com/example/bounded_commute/boundedcommute/engine/BoardingGroup" "riders" "I" (.int (0 : Int32)) := F16.other W20 (Or.inr (slot_ne (Or.inr (hw _ (List.mem_of_getElem? (i := 23) rfl))) (Or.inr (hw _ (List.mem_of_getElem? (i := 17) rfl))) (by decide) (t := .int) (t' := .int) (by decide) (by decide)))
  show own_Go _ _ _ _ (T17.setTop (mkF m 14 #[.val (.ref r0), .val (.int p1), .val (.int p2), .val (.int p3), .val (.int p4), .val (.int p5)] []))
  refine own_go (fun t k => XS.aloadN A18.here hx rfl (hb hby d1_14) rfl rfl k) ?_
  show own_Go _ _ _ _ (T17.setTop (mkF m 15 #[.val (.ref r0), .val (.int p1), .val (.int p2), .val (.int p3), .val (.int p4), .val (.int p5)] [(.ref r0)]))
  refine own_go (fun t k => XS.iloadN A18.here hx rfl (hb hby d1_15) rfl k) ?_
  show own_Go _ _ _ _ (T17.setTop (mkF m 16 #[.val (.ref r0), .val (.int p1), .val (.int p2), .val (.int p3), .val (.int p4), .val (.int p5)] [(.int p3), (.ref r0)]))
  refine own_putF A18 hx hZ hown (host := "") (Or.inl (hw _ (List.mem_of_getElem? (i := 18) rfl))) Via.refl F25 E21 (Or.inr ⟨(hw _ (List.mem_of_getElem? (i := 19) rfl)), rfl, hnm⟩) (hw _ (List.mem_of_getElem? (i := 1) rfl)) (ty := .int) (by decide) rfl rfl g0 rfl rfl (hb hby d1_16) (fun T28 h30 A29 W31 => ?_)
  have E32 : Exa Z h30 r0 "com/example/bounded_commute/boundedcommute/engine/BoardingGroup" := E21.wr W31
  have K33 : Keep h0 h30 [r0] := K22.wr W31 (Or.inl (List.mem_of_getElem? (i := 0) rfl))
  have F34 : Fld Z h30 r0 "com/example/bounded_commute/boundedcommute/engine/BoardingGroup" "station" "I" (.int p1) := F23.other W31 (Or.inr (slot_ne (Or.inr (hw _ (List.mem_of_getElem? (i := 15) rfl))) (Or.inr (hw _ (List.mem_of_getElem? (i := 19) rfl))) (by decide) (t := .int) (t' := .int) (by decide) (by decide)))
  have F35 : Fld Z h30 r0 "com/example/bounded_commute/boundedcommute/engine/BoardingGroup" "type" "I" (.int p2) := F24.other W31 (Or.inr (slot_ne (Or.inr (hw _ (List.mem_of_getElem? (i := 17) rfl))) (Or.inr (hw _ (List.mem_of_getElem? (i := 19) rfl))) (by decide) (t := .int) (t' := .int) (by decide) (by decide)))
  have F36 : Fld Z h30 r0 "com/example/bounded_commute/boundedcommute/engine/BoardingGroup" "chosenBus" "I" (.int p3) := F25.same W31
  have F37 : Fld Z h30 r0 "com/example/bounded_commute/boundedcommute/engine/BoardingGroup" "boardedBus" "I" (.int (0 : Int32)) := F26.other W31 (Or.inr (slot_ne (Or.inr (hw _ (List.mem_of_getElem? (i := 21) rfl))) (Or.inr (hw _ (List.mem_of_getElem? (i := 19) rfl))) (by decide) (t := .int) (t' := .int) (by decide) (by decide)))
  have F38 : Fld Z h30 r0 "com/example/bounded_commute/boundedcommute/engine/BoardingGroup" "riders" "I" (.int (0 : Int32)) := F27.other W31 (Or.inr (slot_ne (Or.inr (hw _ (List.mem_of_getElem? (i := 23) rfl))) (Or.inr (hw _ (List.mem_of_getElem? (i := 19) rfl))) (by decide) (t := .int) (t' := .int) (by decide) (by decide)))
  show own_Go _ _ _ _ (T28.setTop (mkF m 19 #[.val (.ref r0), .val (.int p1), .val (.int p2), .val (.int p3), .val (.int p4), .val (.int p5)] []))
  refine own_go (fun t k => XS.aloadN A29.here hx rfl (hb hby d1_19) rfl rfl k) ?_
  show own_Go _ _ _ _ (T28.setTop (mkF m 20 #[.val (.ref r0), .val (.int p1), .val (.int p2), .val (.int p3), .val (.int p4), .val (.int p5)] [(.ref r0)]))
  refine own_go (fun t k => XS.iload A29.here hx rfl (hb hby d1_20) rfl k) ?_
  show own_Go _ _ _ _ (T28.setTop (mkF m 22 #[.val (.ref r0), .val (.int p1), .val (.int p2), .val (.int p3), .val (.int p4), .val (.int p5)] [(.int p4), (.ref r0)]))
  refine own_putF A29 hx hZ hown (host := "") (Or.inl (hw _ (List.mem_of_getElem? (i := 20) rfl))) Via.refl F37 E32 (Or.inr ⟨(hw _ (List.mem_of_getElem? (i := 21) rfl)), rfl, hnm⟩) (hw _ (List.mem_of_getElem? (i := 1) rfl)) (ty := .int) (by decide) rfl rfl g0 rfl rfl (hb hby d1_22) (fun T39 h41 A40 W42 => ?_)
  have E43 : Exa Z h41 r0 "com/example/bounded_commute/boundedcommute/engine/BoardingGroup" := E32.wr W42
  have K44 : Keep h0 h41 [r0] := K33.wr W42 (Or.inl (List.mem_of_getElem? (i := 0) rfl))
  have F45 : Fld Z h41 r0 "com/example/bounded_commute/boundedcommute/engine/BoardingGroup" "station" "I" (.int p1) := F34.other W42 (Or.inr (slot_ne (Or.inr (hw _ (List.mem_of_getElem? (i := 15) rfl))) (Or.inr (hw _ (List.mem_of_getElem? (i := 21) rfl))) (by decide) (t := .int) (t' := .int) (by decide) (by decide)))
  have F46 : Fld Z h41 r0 "com/example/bounded_commute/boundedcommute/engine/BoardingGroup" "type" "I" (.int p2) := F35.other W42 (Or.inr (slot_ne (Or.inr (hw _ (List.mem_of_getElem? (i := 17) rfl))) (Or.inr (hw _ (List.mem_of_getElem? (i := 21) rfl))) (by decide) (t := .int) (t' := .int) (by decide) (by decide)))
  have F47 : Fld Z h41 r0 "com/example/bounded_commute/boundedcommute/engine/BoardingGroup" "chosenBus" "I" (.int p3) := F36.other W42 (Or.inr (slot_ne (Or.inr (hw _ (List.mem_of_getElem? (i := 19) rfl))) (Or.inr (hw _ (List.mem_of_getElem? (i := 21) rfl))) (by decide) (t := .int) (t' := .int) (by decide) (by decide)))
  have F48 : Fld Z h41 r0 "com/example/bounded_commute/boundedcommute/engine/BoardingGroup" "boardedBus" "I" (.int p4) := F37.same W42
  have F49 : Fld Z h41 r0 "com/example/bounded_commute/boundedcommute/engine/BoardingGroup" "riders" "I" (.int (0 : Int32)) := F38.other W42 (Or.inr (slot_ne (Or.inr (hw _ (List.mem_of_getElem? (i := 23) rfl))) (Or.inr (hw _ (List.mem_of_getElem? (i := 21) rfl))) (by decide) (t := .int) (t' := .int) (by decide) (by decide)))
  show own_Go _ _ _ _ (T39.setTop (mkF m 25 #[.val (.ref r0), .val (.int p1), .val (.int p2), .val (.int p3), .val (.int p4), .val (.int p5)] []))
  refine own_go (fun t k => XS.aloadN A40.here hx rfl (hb hby d1_25) rfl rfl k) ?_
  show own_Go _ _ _ _ (T39.setTop (mkF m 26 #[.val (.ref r0), .val (.int p1), .val (.int p2), .val (.int p3), .val (.int p4), .val (.int p5)] [(.ref r0)]))
  refine own_go (fun t k => XS.iload A40.here hx rfl (hb hby d1_26) rfl k) ?_
  show own_Go _ _ _ _ (T39.setTop (mkF m 28 #[.val (.ref r0), .val (.int p1), .val (.int p2), .val (.int p3), .val (.int p4), .val (.int p5)] [(.int p5), (.ref r0)]))
  refine own_putF A40 hx hZ hown (host := "") (Or.inl (hw _ (List.mem_of_getElem? (i := 22) rfl))) Via.refl F49 E43 (Or.inr ⟨(hw _ (List.mem_of_getElem? (i := 23) rfl)), rfl, hnm⟩) (hw _ (List.mem_of_getElem? (i := 1) rfl)) (ty := .int) (by decide) rfl rfl g0 rfl rfl (hb hby d1_28) (fun T50 h52 A51 W53 => ?_)
  have E54 : Exa Z h52 r0 "com/example/bounded_commute/boundedcommute/engine/BoardingGroup" := E43.wr W53
  have K55 : Keep h0 h52 [r0] := K44.wr W53 (Or.inl (List.mem_of_getElem? (i := 0) rfl))
  have F56 : Fld Z h52 r0 "com/example/bounded_commute/boundedcommute/engine/BoardingGroup" "station" "I" (.int p1) := F45.other W53 (Or.inr (slot_ne (Or.inr (hw _ (List.mem_of_getElem? (i := 15) rfl))) (Or.inr (hw _ (List.mem_of_getElem? (i := 23) rfl))) (by decide) (t := .int) (t' := .int) (by decide) (by decide)))
  have F57 : Fld Z h52 r0 "com/example/bounded_commute/boundedcommute/engine/BoardingGroup" "type" "I" (.int p2) := F46.other W53 (Or.inr (slot_ne (Or.inr (hw _ (List.mem_of_getElem? (i := 17) rfl))) (Or.inr (hw _ (List.mem_of_getElem? (i := 23) rfl))) (by decide) (t := .int) (t' := .int) (by decide) (by decide)))
  have F58 : Fld Z h52 r0 "com/example/bounded_commute/boundedcommute/engine/BoardingGroup" "chosenBus" "I" (.int p3) := F47.other W53 (Or.inr (slot_ne (Or.inr (hw _ (List.mem_of_getElem? (i := 19) rfl))) (Or.inr (hw _ (List.mem_of_getElem? (i := 23) rfl))) (by decide) (t := .int) (t' := .int) (by decide) (by decide)))
  have F59 : Fld Z h52 r0 "com/example/bounded_commute/boundedcommute/engine/BoardingGroup" "boardedBus" "I" (.int p4) := F48.other W53 (Or.inr (slot_ne (Or.inr (hw _ (List.mem_of_getElem? (i := 21) rfl))) (Or.inr (hw _ (List.mem_of_getElem? (i := 23) rfl))) (by decide) (t := .int) (t' := .int) (by decide) (by decide)))
  have F60 : Fld Z h52 r0 "com/example/bounded_commute/boundedcommute/engine/BoardingGroup" "riders" "I" (.int p5) := F49.same W53
  show own_Go _ _ _ _ (T50.setTop (mkF m 31 #[.val (.ref r0), .val (.int p1), .val (.int p2), .val (.int p3), .val (.int p4), .val (.int p5)] []))
  refine own_retV A51 hx hret hlk (by decide) (by decide) (hb hby d1_31) ?_
  exact ⟨rfl, K55, F59⟩
theorem ef_4 (m : MethodId) (r0 : Addr) : entryFrame m #[(.ref r0)] 1 = mkF m 0 #[.val (.ref r0)] [] := by first | (simp [entryFrame, mkF, argsToLocals, Value.category]; done) | rfl
theorem d4_0 : decode prog_3_method_2_code 0 = .ok (.aload_n 0, 1) := by decide +kernel
theorem d4_1 : decode prog_3_method_2_code 1 = .ok (.getfield 19, 3) := by decide +kernel
theorem d4_4 : decode prog_3_method_2_code 4 = .ok (.iconst (-1), 1) := by decide +kernel
theorem d4_5 : decode prog_3_method_2_code 5 = .ok (.if_icmp .ne 7, 3) := by decide +kernel
theorem d4_8 : decode prog_3_method_2_code 8 = .ok (.iconst 1, 1) := by decide +kernel
theorem d4_9 : decode prog_3_method_2_code 9 = .ok (.goto 4, 3) := by decide +kernel
theorem d4_12 : decode prog_3_method_2_code 12 = .ok (.iconst 0, 1) := by decide +kernel
theorem d4_13 : decode prog_3_method_2_code 13 = .ok (.ireturn, 1) := by decide +kernel
def f4 (w_boardedBus_r0 : Int32) : Int32 := (nar .boolean (if w_boardedBus_r0 = (-1 : Int32) then (1 : Int32) else (0 : Int32)))
set_option maxRecDepth 65536 in
set_option maxHeartbeats 40000000 in
theorem rm4 (l : Launch) (Z : State) (a0 : Array Value) (hw : ∀ d ∈ tables_1, d.before a0 Z = true) (r0 : Addr) (w_boardedBus_r0 : Int32) (h0 : Heap) (n0 : Nat) (F_boardedBus_r0 : Fld Z h0 r0 "com/example/bounded_commute/boundedcommute/engine/BoardingGroup" "boardedBus" "I" (.int w_boardedBus_r0)) :
    own_Met l Z n0 (⟨"com/example/bounded_commute/boundedcommute/engine/BoardingGroup", "isStranded", "()Z"⟩ : MethodName) prog_3_method_2_code 1 (some .boolean) ({ frames := 0, cells := 0, slots := 0, locals := 0 } : Room) #[(.ref r0)] h0 (fun v h => v = some (.int (f4 w_boardedBus_r0)) ∧ h0 = h) := by
  refine own_met (plainFor_of_name pn_1) ?_
  intro p e s m below meth c T0 hx hby hml hown hnm hret hlk hZ A0
  rw [ef_4]
  show own_Go _ _ _ _ (T0.setTop (mkF m 0 #[.val (.ref r0)] []))
  refine own_go (fun t k => XS.aloadN A0.here hx rfl (hb hby d4_0) rfl rfl k) ?_
  show own_Go _ _ _ _ (T0.setTop (mkF m 1 #[.val (.ref r0)] [(.ref r0)]))
  refine own_getF A0 hx hZ hown (host := "") (Or.inl (hw _ (List.mem_of_getElem? (i := 20) rfl))) Via.refl F_boardedBus_r0 rfl rfl (hb hby d4_1) (fun T1 A2 => ?_)
  show own_Go _ _ _ _ (T1.setTop (mkF m 4 #[.val (.ref r0)] [(.int w_boardedBus_r0)]))
  refine own_go (fun t k => XS.iconst A2.here hx rfl (hb hby d4_4) k) ?_
  show own_Go _ _ _ _ (T1.setTop (mkF m 5 #[.val (.ref r0)] [(.int (-1 : Int32)), (.int w_boardedBus_r0)]))
  have mg3 : ∀ t, Steps p.tables e below (T1.setTop (mkF m 13 #[.val (.ref r0)] [(.int (if w_boardedBus_r0 = (-1 : Int32) then (1 : Int32) else (0 : Int32)))])) t → Steps p.tables e below (T1.setTop (mkF m 5 #[.val (.ref r0)] [(.int (-1 : Int32)), (.int w_boardedBus_r0)])) t := by
    intro t k
    by_cases hm5_0 : w_boardedBus_r0 = (-1 : Int32)
    ·
      simp only [if_pos hm5_0] at k
      exact (XS.icmpNo A2.here hx rfl (hb hby d4_5) rfl (teq hm5_0).2 (XS.iconst A2.here hx rfl (hb hby d4_8) (XS.goto A2.here hx rfl (pc0 := 9) (pc' := 13) rfl (hb hby d4_9) (by decide) (by decide) k)))
    ·
      simp only [if_neg hm5_0] at k
      exact (XS.icmpYes A2.here hx rfl (pc0 := 5) (pc' := 12) rfl (hb hby d4_5) rfl (feq hm5_0).2 (by decide) (by decide) (XS.iconst A2.here hx rfl (hb hby d4_12) k))
  refine own_go mg3 ?_
  show own_Go _ _ _ _ (T1.setTop (mkF m 13 #[.val (.ref r0)] [(.int (if w_boardedBus_r0 = (-1 : Int32) then (1 : Int32) else (0 : Int32)))]))
  refine own_retN A2 hx (t := .boolean) hret (by simp) hlk (by decide) (by decide) (hb hby d4_13) ?_
  exact ⟨rfl, rfl⟩
theorem ef_5 (m : MethodId) (r0 : Addr) : entryFrame m #[(.ref r0)] 1 = mkF m 0 #[.val (.ref r0)] [] := by first | (simp [entryFrame, mkF, argsToLocals, Value.category]; done) | rfl
theorem d5_0 : decode prog_3_method_9_code 0 = .ok (.aload_n 0, 1) := by decide +kernel
theorem d5_1 : decode prog_3_method_9_code 1 = .ok (.getfield 19, 3) := by decide +kernel
theorem d5_4 : decode prog_3_method_9_code 4 = .ok (.ireturn, 1) := by decide +kernel
def f5 (w_boardedBus_r0 : Int32) : Int32 := w_boardedBus_r0
set_option maxRecDepth 65536 in
set_option maxHeartbeats 40000000 in
theorem rm5 (l : Launch) (Z : State) (a0 : Array Value) (hw : ∀ d ∈ tables_1, d.before a0 Z = true) (r0 : Addr) (w_boardedBus_r0 : Int32) (h0 : Heap) (n0 : Nat) (F_boardedBus_r0 : Fld Z h0 r0 "com/example/bounded_commute/boundedcommute/engine/BoardingGroup" "boardedBus" "I" (.int w_boardedBus_r0)) :
    own_Met l Z n0 (⟨"com/example/bounded_commute/boundedcommute/engine/BoardingGroup", "boardedBus", "()I"⟩ : MethodName) prog_3_method_9_code 1 (some .int) ({ frames := 0, cells := 0, slots := 0, locals := 0 } : Room) #[(.ref r0)] h0 (fun v h => v = some (.int (f5 w_boardedBus_r0)) ∧ h0 = h) := by
  refine own_met (plainFor_of_name pn_1) ?_
  intro p e s m below meth c T0 hx hby hml hown hnm hret hlk hZ A0
  rw [ef_5]
  show own_Go _ _ _ _ (T0.setTop (mkF m 0 #[.val (.ref r0)] []))
  refine own_go (fun t k => XS.aloadN A0.here hx rfl (hb hby d5_0) rfl rfl k) ?_
  show own_Go _ _ _ _ (T0.setTop (mkF m 1 #[.val (.ref r0)] [(.ref r0)]))
  refine own_getF A0 hx hZ hown (host := "") (Or.inl (hw _ (List.mem_of_getElem? (i := 20) rfl))) Via.refl F_boardedBus_r0 rfl rfl (hb hby d5_1) (fun T1 A2 => ?_)
  show own_Go _ _ _ _ (T1.setTop (mkF m 4 #[.val (.ref r0)] [(.int w_boardedBus_r0)]))
  refine own_retI A2 hx hret hlk (by decide) (by decide) (hb hby d5_4) ?_
  exact ⟨rfl, rfl⟩
theorem ef_0 (m : MethodId) (p0 : Int32) (p1 : Int32) (p2 : Int32) (p3 : Int32) (p4 : Int32) (p5 : Int32) : entryFrame m #[(.int p0), (.int p1), (.int p2), (.int p3), (.int p4), (.int p5)] maxLocals = mkF m 0 #[.val (.int p0), .val (.int p1), .val (.int p2), .val (.int p3), .val (.int p4), .val (.int p5), .unset, .unset, .unset] [] := by first | (simp [entryFrame, mkF, argsToLocals, Value.category, maxLocals]; done) | rfl
theorem pn_0 : plainName "com/example/bounded_commute/boundedcommute/engine/BoardingGroupIsStrandedPinLaw" = true := by first | (simp [plainName, overriddenIn]; done) | decide +kernel
theorem pd__IIIII_V : parseMethodDescriptor "(IIIII)V" = some ⟨[.int, .int, .int, .int, .int], none⟩ := by decide +kernel
theorem pd___Z : parseMethodDescriptor "()Z" = some ⟨[], some .boolean⟩ := by decide +kernel
theorem pd___I : parseMethodDescriptor "()I" = some ⟨[], some .int⟩ := by decide +kernel
def f0 (p0 : Int32) (p1 : Int32) (p2 : Int32) (p3 : Int32) (p4 : Int32) (p5 : Int32) : Int32 := (if (f4 (if (p5 &&& (1 : Int32)) = (0 : Int32) then p3 else (-1 : Int32))) = (if (if (p5 &&& (1 : Int32)) = (0 : Int32) then p3 else (-1 : Int32)) = (-1 : Int32) then (1 : Int32) else (0 : Int32)) then (nar .boolean (if (f5 (if (p5 &&& (1 : Int32)) = (0 : Int32) then p3 else (-1 : Int32))) = (if (p5 &&& (1 : Int32)) = (0 : Int32) then p3 else (-1 : Int32)) then (1 : Int32) else (0 : Int32))) else (0 : Int32))
set_option maxRecDepth 65536 in
set_option maxHeartbeats 40000000 in
theorem rm0 (l : Launch) (Z : State) (a0 : Array Value) (hw : ∀ d ∈ tables_1, d.before a0 Z = true) (p0 : Int32) (p1 : Int32) (p2 : Int32) (p3 : Int32) (p4 : Int32) (p5 : Int32) (h0 : Heap) (n0 : Nat) (O0 : Old Z n0 h0) (Z0 : n0 ≤ h0.size) :
    own_Met l Z n0 x code maxLocals ret room_1 #[(.int p0), (.int p1), (.int p2), (.int p3), (.int p4), (.int p5)] h0 (fun v h => v = some (.int (f0 p0 p1 p2 p3 p4 p5)) ∧ True) := by
  refine own_met (plainFor_of_name pn_0) ?_
  intro p e s m below meth c T0 hx hby hml hown hnm hret hlk hZ A0
  have hret : meth.sig.returnType = some .boolean := hret
  rw [ef_0]
  show own_Go _ _ _ _ (T0.setTop (mkF m 0 #[.val (.int p0), .val (.int p1), .val (.int p2), .val (.int p3), .val (.int p4), .val (.int p5), .unset, .unset, .unset] []))
  refine own_go (fun t k => XS.iload A0.here hx rfl (hb hby at_0) rfl k) ?_
  show own_Go _ _ _ _ (T0.setTop (mkF m 2 #[.val (.int p0), .val (.int p1), .val (.int p2), .val (.int p3), .val (.int p4), .val (.int p5), .unset, .unset, .unset] [(.int p5)]))
  refine own_go (fun t k => XS.iconst A0.here hx rfl (hb hby at_2) k) ?_
  show own_Go _ _ _ _ (T0.setTop (mkF m 3 #[.val (.int p0), .val (.int p1), .val (.int p2), .val (.int p3), .val (.int p4), .val (.int p5), .unset, .unset, .unset] [(.int (1 : Int32)), (.int p5)]))
  refine own_go (fun t k => XS.iand A0.here hx rfl (hb hby at_3) rfl k) ?_
  show own_Go _ _ _ _ (T0.setTop (mkF m 4 #[.val (.int p0), .val (.int p1), .val (.int p2), .val (.int p3), .val (.int p4), .val (.int p5), .unset, .unset, .unset] [(.int (p5 &&& (1 : Int32)))]))
  have mg1 : ∀ t, Steps p.tables e below (T0.setTop (mkF m 12 #[.val (.int p0), .val (.int p1), .val (.int p2), .val (.int p3), .val (.int p4), .val (.int p5), .unset, .unset, .unset] [(.int (if (p5 &&& (1 : Int32)) = (0 : Int32) then p3 else (-1 : Int32)))])) t → Steps p.tables e below (T0.setTop (mkF m 4 #[.val (.int p0), .val (.int p1), .val (.int p2), .val (.int p3), .val (.int p4), .val (.int p5), .unset, .unset, .unset] [(.int (p5 &&& (1 : Int32)))])) t := by
    intro t k
    by_cases hm4_0 : (p5 &&& (1 : Int32)) = (0 : Int32)
    ·
      simp only [if_pos hm4_0] at k
      exact (XS.ifYes A0.here hx rfl (pc0 := 4) (pc' := 11) rfl (hb hby at_4) rfl ((if0 _ _).trans (teq hm4_0).1) (by decide) (by decide) (XS.iloadN A0.here hx rfl (hb hby at_11) rfl k))
    ·
      simp only [if_neg hm4_0] at k
      exact (XS.ifNo A0.here hx rfl (hb hby at_4) rfl ((if0 _ _).trans (feq hm4_0).1) (XS.iconst A0.here hx rfl (hb hby at_7) (XS.goto A0.here hx rfl (pc0 := 8) (pc' := 12) rfl (hb hby at_8) (by decide) (by decide) k)))
  refine own_go mg1 ?_
  show own_Go _ _ _ _ (T0.setTop (mkF m 12 #[.val (.int p0), .val (.int p1), .val (.int p2), .val (.int p3), .val (.int p4), .val (.int p5), .unset, .unset, .unset] [(.int (if (p5 &&& (1 : Int32)) = (0 : Int32) then p3 else (-1 : Int32)))]))
  refine own_go (fun t k => XS.istore A0.here hx rfl (hb hby at_12) rfl (l' := #[.val (.int p0), .val (.int p1), .val (.int p2), .val (.int p3), .val (.int p4), .val (.int p5), .val (.int (if (p5 &&& (1 : Int32)) = (0 : Int32) then p3 else (-1 : Int32))), .unset, .unset]) rfl k) ?_
  show own_Go _ _ _ _ (T0.setTop (mkF m 14 #[.val (.int p0), .val (.int p1), .val (.int p2), .val (.int p3), .val (.int p4), .val (.int p5), .val (.int (if (p5 &&& (1 : Int32)) = (0 : Int32) then p3 else (-1 : Int32))), .unset, .unset] []))
  refine own_newO A0 hx hZ hown (hw _ (List.mem_of_getElem? (i := 0) rfl)) (hw _ (List.mem_of_getElem? (i := 1) rfl)) (hw _ (List.mem_of_getElem? (i := 2) rfl)) rfl (hb hby at_14) (by decide) (by decide) (fun T2 h4 b5 ha_b5 A3 E6 X7 D8 => ?_)
  have g_b5 : n0 ≤ b5 := by rw [ha_b5]; exact Z0
  have O9 : Old Z n0 h4 := O0.ext E6
  have Z10 : n0 ≤ h4.size := Nat.le_trans Z0 E6.1
  have F11 : Fld Z h4 b5 "com/example/bounded_commute/boundedcommute/engine/BoardingGroup" "station" "I" (.int (0 : Int32)) := D8 (Or.inr (hw _ (List.mem_of_getElem? (i := 15) rfl))) (ty := .int) (by decide)
  have F12 : Fld Z h4 b5 "com/example/bounded_commute/boundedcommute/engine/BoardingGroup" "type" "I" (.int (0 : Int32)) := D8 (Or.inr (hw _ (List.mem_of_getElem? (i := 17) rfl))) (ty := .int) (by decide)
  have F13 : Fld Z h4 b5 "com/example/bounded_commute/boundedcommute/engine/BoardingGroup" "chosenBus" "I" (.int (0 : Int32)) := D8 (Or.inr (hw _ (List.mem_of_getElem? (i := 19) rfl))) (ty := .int) (by decide)
  have F14 : Fld Z h4 b5 "com/example/bounded_commute/boundedcommute/engine/BoardingGroup" "boardedBus" "I" (.int (0 : Int32)) := D8 (Or.inr (hw _ (List.mem_of_getElem? (i := 21) rfl))) (ty := .int) (by decide)
  have F15 : Fld Z h4 b5 "com/example/bounded_commute/boundedcommute/engine/BoardingGroup" "riders" "I" (.int (0 : Int32)) := D8 (Or.inr (hw _ (List.mem_of_getElem? (i := 23) rfl))) (ty := .int) (by decide)
  show own_Go _ _ _ _ (T2.setTop (mkF m 17 #[.val (.int p0), .val (.int p1), .val (.int p2), .val (.int p3), .val (.int p4), .val (.int p5), .val (.int (if (p5 &&& (1 : Int32)) = (0 : Int32) then p3 else (-1 : Int32))), .unset, .unset] [(.ref b5)]))
  refine own_go (fun t k => XS.dup A3.here hx rfl (hb hby at_17) rfl rfl k) ?_
  show own_Go _ _ _ _ (T2.setTop (mkF m 18 #[.val (.int p0), .val (.int p1), .val (.int p2), .val (.int p3), .val (.int p4), .val (.int p5), .val (.int (if (p5 &&& (1 : Int32)) = (0 : Int32) then p3 else (-1 : Int32))), .unset, .unset] [(.ref b5), (.ref b5)]))
  refine own_go (fun t k => XS.iloadN A3.here hx rfl (hb hby at_18) rfl k) ?_
  show own_Go _ _ _ _ (T2.setTop (mkF m 19 #[.val (.int p0), .val (.int p1), .val (.int p2), .val (.int p3), .val (.int p4), .val (.int p5), .val (.int (if (p5 &&& (1 : Int32)) = (0 : Int32) then p3 else (-1 : Int32))), .unset, .unset] [(.int p0), (.ref b5), (.ref b5)]))
  refine own_go (fun t k => XS.iloadN A3.here hx rfl (hb hby at_19) rfl k) ?_
  show own_Go _ _ _ _ (T2.setTop (mkF m 20 #[.val (.int p0), .val (.int p1), .val (.int p2), .val (.int p3), .val (.int p4), .val (.int p5), .val (.int (if (p5 &&& (1 : Int32)) = (0 : Int32) then p3 else (-1 : Int32))), .unset, .unset] [(.int p1), (.int p0), (.ref b5), (.ref b5)]))
  refine own_go (fun t k => XS.iloadN A3.here hx rfl (hb hby at_20) rfl k) ?_
  show own_Go _ _ _ _ (T2.setTop (mkF m 21 #[.val (.int p0), .val (.int p1), .val (.int p2), .val (.int p3), .val (.int p4), .val (.int p5), .val (.int (if (p5 &&& (1 : Int32)) = (0 : Int32) then p3 else (-1 : Int32))), .unset, .unset] [(.int p2), (.int p1), (.int p0), (.ref b5), (.ref b5)]))
  refine own_go (fun t k => XS.iload A3.here hx rfl (hb hby at_21) rfl k) ?_
  show own_Go _ _ _ _ (T2.setTop (mkF m 23 #[.val (.int p0), .val (.int p1), .val (.int p2), .val (.int p3), .val (.int p4), .val (.int p5), .val (.int (if (p5 &&& (1 : Int32)) = (0 : Int32) then p3 else (-1 : Int32))), .unset, .unset] [(.int (if (p5 &&& (1 : Int32)) = (0 : Int32) then p3 else (-1 : Int32))), (.int p2), (.int p1), (.int p0), (.ref b5), (.ref b5)]))
  refine own_go (fun t k => XS.iload A3.here hx rfl (hb hby at_23) rfl k) ?_
  show own_Go _ _ _ _ (T2.setTop (mkF m 25 #[.val (.int p0), .val (.int p1), .val (.int p2), .val (.int p3), .val (.int p4), .val (.int p5), .val (.int (if (p5 &&& (1 : Int32)) = (0 : Int32) then p3 else (-1 : Int32))), .unset, .unset] [(.int p4), (.int (if (p5 &&& (1 : Int32)) = (0 : Int32) then p3 else (-1 : Int32))), (.int p2), (.int p1), (.int p0), (.ref b5), (.ref b5)]))
  refine own_callI A3 hx hZ (y := (⟨"com/example/bounded_commute/boundedcommute/engine/BoardingGroup", "<init>", "(IIIII)V"⟩ : MethodName)) rfl hown (hw _ (List.mem_of_getElem? (i := 3) rfl)) (hw _ (List.mem_of_getElem? (i := 4) rfl)) (hw _ (List.mem_of_getElem? (i := 2) rfl)) (hw _ (List.mem_of_getElem? (i := 5) rfl)) (by decide) (b := b5) (argsL := [(.int p0), (.int p1), (.int p2), (.int (if (p5 &&& (1 : Int32)) = (0 : Int32) then p3 else (-1 : Int32))), (.int p4)]) (rest := [(.ref b5)]) (rm1 l Z a0 hw b5 p0 p1 p2 (if (p5 &&& (1 : Int32)) = (0 : Int32) then p3 else (-1 : Int32)) p4 h4 n0 X7 g_b5 F11 F12 F13 F14 F15) 1 (by decide) (by decide) rfl (by rw [hml]; rfl) (lenOf pd__IIIII_V rfl) rfl (by show 2 * 0 + _ ≤ _; exact Nat.le_of_eq rfl) (hb hby at_25) (by decide) (by decide) (fun v19 T16 h18 A17 hQ20 => ?_)
  obtain ⟨rfl, K21, F22⟩ := hQ20
  have O23 : Old Z n0 h18 := O9.keep K21 (allS g_b5 all0)
  have Z24 : n0 ≤ h18.size := Nat.le_trans Z10 K21.1
  have E25 : Exa Z h18 b5 "com/example/bounded_commute/boundedcommute/engine/BoardingGroup" := X7.keep K21
  show own_Go _ _ _ _ (T16.setTop (mkF m 28 #[.val (.int p0), .val (.int p1), .val (.int p2), .val (.int p3), .val (.int p4), .val (.int p5), .val (.int (if (p5 &&& (1 : Int32)) = (0 : Int32) then p3 else (-1 : Int32))), .unset, .unset] [(.ref b5)]))
  refine own_go (fun t k => XS.astore A17.here hx rfl (hb hby at_28) rfl rfl (l' := #[.val (.int p0), .val (.int p1), .val (.int p2), .val (.int p3), .val (.int p4), .val (.int p5), .val (.int (if (p5 &&& (1 : Int32)) = (0 : Int32) then p3 else (-1 : Int32))), .val (.ref b5), .unset]) rfl k) ?_
  show own_Go _ _ _ _ (T16.setTop (mkF m 30 #[.val (.int p0), .val (.int p1), .val (.int p2), .val (.int p3), .val (.int p4), .val (.int p5), .val (.int (if (p5 &&& (1 : Int32)) = (0 : Int32) then p3 else (-1 : Int32))), .val (.ref b5), .unset] []))
  refine own_go (fun t k => XS.iload A17.here hx rfl (hb hby at_30) rfl k) ?_
  show own_Go _ _ _ _ (T16.setTop (mkF m 32 #[.val (.int p0), .val (.int p1), .val (.int p2), .val (.int p3), .val (.int p4), .val (.int p5), .val (.int (if (p5 &&& (1 : Int32)) = (0 : Int32) then p3 else (-1 : Int32))), .val (.ref b5), .unset] [(.int (if (p5 &&& (1 : Int32)) = (0 : Int32) then p3 else (-1 : Int32)))]))
  refine own_go (fun t k => XS.iconst A17.here hx rfl (hb hby at_32) k) ?_
  show own_Go _ _ _ _ (T16.setTop (mkF m 33 #[.val (.int p0), .val (.int p1), .val (.int p2), .val (.int p3), .val (.int p4), .val (.int p5), .val (.int (if (p5 &&& (1 : Int32)) = (0 : Int32) then p3 else (-1 : Int32))), .val (.ref b5), .unset] [(.int (-1 : Int32)), (.int (if (p5 &&& (1 : Int32)) = (0 : Int32) then p3 else (-1 : Int32)))]))
  have mg26 : ∀ t, Steps p.tables e below (T16.setTop (mkF m 41 #[.val (.int p0), .val (.int p1), .val (.int p2), .val (.int p3), .val (.int p4), .val (.int p5), .val (.int (if (p5 &&& (1 : Int32)) = (0 : Int32) then p3 else (-1 : Int32))), .val (.ref b5), .unset] [(.int (if (if (p5 &&& (1 : Int32)) = (0 : Int32) then p3 else (-1 : Int32)) = (-1 : Int32) then (1 : Int32) else (0 : Int32)))])) t → Steps p.tables e below (T16.setTop (mkF m 33 #[.val (.int p0), .val (.int p1), .val (.int p2), .val (.int p3), .val (.int p4), .val (.int p5), .val (.int (if (p5 &&& (1 : Int32)) = (0 : Int32) then p3 else (-1 : Int32))), .val (.ref b5), .unset] [(.int (-1 : Int32)), (.int (if (p5 &&& (1 : Int32)) = (0 : Int32) then p3 else (-1 : Int32)))])) t := by
    intro t k
    by_cases hm33_0 : (if (p5 &&& (1 : Int32)) = (0 : Int32) then p3 else (-1 : Int32)) = (-1 : Int32)
    ·
      simp only [if_pos hm33_0] at k
      exact (XS.icmpNo A17.here hx rfl (hb hby at_33) rfl (teq hm33_0).2 (XS.iconst A17.here hx rfl (hb hby at_36) (XS.goto A17.here hx rfl (pc0 := 37) (pc' := 41) rfl (hb hby at_37) (by decide) (by decide) k)))
    ·
      simp only [if_neg hm33_0] at k
      exact (XS.icmpYes A17.here hx rfl (pc0 := 33) (pc' := 40) rfl (hb hby at_33) rfl (feq hm33_0).2 (by decide) (by decide) (XS.iconst A17.here hx rfl (hb hby at_40) k))
  refine own_go mg26 ?_
  show own_Go _ _ _ _ (T16.setTop (mkF m 41 #[.val (.int p0), .val (.int p1), .val (.int p2), .val (.int p3), .val (.int p4), .val (.int p5), .val (.int (if (p5 &&& (1 : Int32)) = (0 : Int32) then p3 else (-1 : Int32))), .val (.ref b5), .unset] [(.int (if (if (p5 &&& (1 : Int32)) = (0 : Int32) then p3 else (-1 : Int32)) = (-1 : Int32) then (1 : Int32) else (0 : Int32)))]))
  refine own_go (fun t k => XS.istore A17.here hx rfl (hb hby at_41) rfl (l' := #[.val (.int p0), .val (.int p1), .val (.int p2), .val (.int p3), .val (.int p4), .val (.int p5), .val (.int (if (p5 &&& (1 : Int32)) = (0 : Int32) then p3 else (-1 : Int32))), .val (.ref b5), .val (.int (if (if (p5 &&& (1 : Int32)) = (0 : Int32) then p3 else (-1 : Int32)) = (-1 : Int32) then (1 : Int32) else (0 : Int32)))]) rfl k) ?_
  show own_Go _ _ _ _ (T16.setTop (mkF m 43 #[.val (.int p0), .val (.int p1), .val (.int p2), .val (.int p3), .val (.int p4), .val (.int p5), .val (.int (if (p5 &&& (1 : Int32)) = (0 : Int32) then p3 else (-1 : Int32))), .val (.ref b5), .val (.int (if (if (p5 &&& (1 : Int32)) = (0 : Int32) then p3 else (-1 : Int32)) = (-1 : Int32) then (1 : Int32) else (0 : Int32)))] []))
  refine own_go (fun t k => XS.aload A17.here hx rfl (hb hby at_43) rfl rfl k) ?_
  show own_Go _ _ _ _ (T16.setTop (mkF m 45 #[.val (.int p0), .val (.int p1), .val (.int p2), .val (.int p3), .val (.int p4), .val (.int p5), .val (.int (if (p5 &&& (1 : Int32)) = (0 : Int32) then p3 else (-1 : Int32))), .val (.ref b5), .val (.int (if (if (p5 &&& (1 : Int32)) = (0 : Int32) then p3 else (-1 : Int32)) = (-1 : Int32) then (1 : Int32) else (0 : Int32)))] [(.ref b5)]))
  refine own_callV A17 hx hZ (y := (⟨"com/example/bounded_commute/boundedcommute/engine/BoardingGroup", "isStranded", "()Z"⟩ : MethodName)) (z := (⟨"com/example/bounded_commute/boundedcommute/engine/BoardingGroup", "isStranded", "()Z"⟩ : MethodName)) hown (hw _ (List.mem_of_getElem? (i := 24) rfl)) (hw _ (List.mem_of_getElem? (i := 25) rfl)) (hw _ (List.mem_of_getElem? (i := 27) rfl)) (hw _ (List.mem_of_getElem? (i := 26) rfl)) (hw _ (List.mem_of_getElem? (i := 2) rfl)) (hw _ (List.mem_of_getElem? (i := 28) rfl)) (notFace_of_selects (args := #[]) (mvT hZ (hw _ (List.mem_of_getElem? (i := 27) rfl)))) (by decide) (b := b5) (argsL := []) (rest := []) E25 (rm4 l Z a0 hw b5 (if (p5 &&& (1 : Int32)) = (0 : Int32) then p3 else (-1 : Int32)) h18 n0 F22) 0 (by decide) (by decide) rfl (by rw [hml]; rfl) (lenOf pd___Z rfl) rfl (by show 2 * 0 + _ ≤ _; exact Nat.le_of_eq rfl) (hb hby at_45) (by decide) (by decide) (fun v30 T27 h29 A28 hQ31 => ?_)
  obtain ⟨rfl, rfl⟩ := hQ31
  show own_Go _ _ _ _ (T27.setTop (mkF m 48 #[.val (.int p0), .val (.int p1), .val (.int p2), .val (.int p3), .val (.int p4), .val (.int p5), .val (.int (if (p5 &&& (1 : Int32)) = (0 : Int32) then p3 else (-1 : Int32))), .val (.ref b5), .val (.int (if (if (p5 &&& (1 : Int32)) = (0 : Int32) then p3 else (-1 : Int32)) = (-1 : Int32) then (1 : Int32) else (0 : Int32)))] [(.int (f4 (if (p5 &&& (1 : Int32)) = (0 : Int32) then p3 else (-1 : Int32))))]))
  refine own_go (fun t k => XS.iload A28.here hx rfl (hb hby at_48) rfl k) ?_
  show own_Go _ _ _ _ (T27.setTop (mkF m 50 #[.val (.int p0), .val (.int p1), .val (.int p2), .val (.int p3), .val (.int p4), .val (.int p5), .val (.int (if (p5 &&& (1 : Int32)) = (0 : Int32) then p3 else (-1 : Int32))), .val (.ref b5), .val (.int (if (if (p5 &&& (1 : Int32)) = (0 : Int32) then p3 else (-1 : Int32)) = (-1 : Int32) then (1 : Int32) else (0 : Int32)))] [(.int (if (if (p5 &&& (1 : Int32)) = (0 : Int32) then p3 else (-1 : Int32)) = (-1 : Int32) then (1 : Int32) else (0 : Int32))), (.int (f4 (if (p5 &&& (1 : Int32)) = (0 : Int32) then p3 else (-1 : Int32))))]))
  by_cases hc32 : (f4 (if (p5 &&& (1 : Int32)) = (0 : Int32) then p3 else (-1 : Int32))) = (if (if (p5 &&& (1 : Int32)) = (0 : Int32) then p3 else (-1 : Int32)) = (-1 : Int32) then (1 : Int32) else (0 : Int32))
  ·
    refine own_go (fun t k => XS.icmpNo A28.here hx rfl (hb hby at_50) rfl (teq hc32).2 k) ?_
    show own_Go _ _ _ _ (T27.setTop (mkF m 53 #[.val (.int p0), .val (.int p1), .val (.int p2), .val (.int p3), .val (.int p4), .val (.int p5), .val (.int (if (p5 &&& (1 : Int32)) = (0 : Int32) then p3 else (-1 : Int32))), .val (.ref b5), .val (.int (if (if (p5 &&& (1 : Int32)) = (0 : Int32) then p3 else (-1 : Int32)) = (-1 : Int32) then (1 : Int32) else (0 : Int32)))] []))
    refine own_go (fun t k => XS.aload A28.here hx rfl (hb hby at_53) rfl rfl k) ?_
    show own_Go _ _ _ _ (T27.setTop (mkF m 55 #[.val (.int p0), .val (.int p1), .val (.int p2), .val (.int p3), .val (.int p4), .val (.int p5), .val (.int (if (p5 &&& (1 : Int32)) = (0 : Int32) then p3 else (-1 : Int32))), .val (.ref b5), .val (.int (if (if (p5 &&& (1 : Int32)) = (0 : Int32) then p3 else (-1 : Int32)) = (-1 : Int32) then (1 : Int32) else (0 : Int32)))] [(.ref b5)]))
    refine own_callV A28 hx hZ (y := (⟨"com/example/bounded_commute/boundedcommute/engine/BoardingGroup", "boardedBus", "()I"⟩ : MethodName)) (z := (⟨"com/example/bounded_commute/boundedcommute/engine/BoardingGroup", "boardedBus", "()I"⟩ : MethodName)) hown (hw _ (List.mem_of_getElem? (i := 29) rfl)) (hw _ (List.mem_of_getElem? (i := 30) rfl)) (hw _ (List.mem_of_getElem? (i := 32) rfl)) (hw _ (List.mem_of_getElem? (i := 31) rfl)) (hw _ (List.mem_of_getElem? (i := 2) rfl)) (hw _ (List.mem_of_getElem? (i := 33) rfl)) (notFace_of_selects (args := #[]) (mvT hZ (hw _ (List.mem_of_getElem? (i := 32) rfl)))) (by decide) (b := b5) (argsL := []) (rest := []) E25 (rm5 l Z a0 hw b5 (if (p5 &&& (1 : Int32)) = (0 : Int32) then p3 else (-1 : Int32)) h18 n0 F22) 0 (by decide) (by decide) rfl (by rw [hml]; rfl) (lenOf pd___I rfl) rfl (by show 2 * 0 + _ ≤ _; exact Nat.le_of_eq rfl) (hb hby at_55) (by decide) (by decide) (fun v36 T33 h35 A34 hQ37 => ?_)
    obtain ⟨rfl, rfl⟩ := hQ37
    show own_Go _ _ _ _ (T33.setTop (mkF m 58 #[.val (.int p0), .val (.int p1), .val (.int p2), .val (.int p3), .val (.int p4), .val (.int p5), .val (.int (if (p5 &&& (1 : Int32)) = (0 : Int32) then p3 else (-1 : Int32))), .val (.ref b5), .val (.int (if (if (p5 &&& (1 : Int32)) = (0 : Int32) then p3 else (-1 : Int32)) = (-1 : Int32) then (1 : Int32) else (0 : Int32)))] [(.int (f5 (if (p5 &&& (1 : Int32)) = (0 : Int32) then p3 else (-1 : Int32))))]))
    refine own_go (fun t k => XS.iload A34.here hx rfl (hb hby at_58) rfl k) ?_
    show own_Go _ _ _ _ (T33.setTop (mkF m 60 #[.val (.int p0), .val (.int p1), .val (.int p2), .val (.int p3), .val (.int p4), .val (.int p5), .val (.int (if (p5 &&& (1 : Int32)) = (0 : Int32) then p3 else (-1 : Int32))), .val (.ref b5), .val (.int (if (if (p5 &&& (1 : Int32)) = (0 : Int32) then p3 else (-1 : Int32)) = (-1 : Int32) then (1 : Int32) else (0 : Int32)))] [(.int (if (p5 &&& (1 : Int32)) = (0 : Int32) then p3 else (-1 : Int32))), (.int (f5 (if (p5 &&& (1 : Int32)) = (0 : Int32) then p3 else (-1 : Int32))))]))
    have mg38 : ∀ t, Steps p.tables e below (T33.setTop (mkF m 68 #[.val (.int p0), .val (.int p1), .val (.int p2), .val (.int p3), .val (.int p4), .val (.int p5), .val (.int (if (p5 &&& (1 : Int32)) = (0 : Int32) then p3 else (-1 : Int32))), .val (.ref b5), .val (.int (if (if (p5 &&& (1 : Int32)) = (0 : Int32) then p3 else (-1 : Int32)) = (-1 : Int32) then (1 : Int32) else (0 : Int32)))] [(.int (if (f5 (if (p5 &&& (1 : Int32)) = (0 : Int32) then p3 else (-1 : Int32))) = (if (p5 &&& (1 : Int32)) = (0 : Int32) then p3 else (-1 : Int32)) then (1 : Int32) else (0 : Int32)))])) t → Steps p.tables e below (T33.setTop (mkF m 60 #[.val (.int p0), .val (.int p1), .val (.int p2), .val (.int p3), .val (.int p4), .val (.int p5), .val (.int (if (p5 &&& (1 : Int32)) = (0 : Int32) then p3 else (-1 : Int32))), .val (.ref b5), .val (.int (if (if (p5 &&& (1 : Int32)) = (0 : Int32) then p3 else (-1 : Int32)) = (-1 : Int32) then (1 : Int32) else (0 : Int32)))] [(.int (if (p5 &&& (1 : Int32)) = (0 : Int32) then p3 else (-1 : Int32))), (.int (f5 (if (p5 &&& (1 : Int32)) = (0 : Int32) then p3 else (-1 : Int32))))])) t := by
      intro t k
      by_cases hm60_0 : (f5 (if (p5 &&& (1 : Int32)) = (0 : Int32) then p3 else (-1 : Int32))) = (if (p5 &&& (1 : Int32)) = (0 : Int32) then p3 else (-1 : Int32))
      ·
        simp only [if_pos hm60_0] at k
        exact (XS.icmpNo A34.here hx rfl (hb hby at_60) rfl (teq hm60_0).2 (XS.iconst A34.here hx rfl (hb hby at_63) (XS.goto A34.here hx rfl (pc0 := 64) (pc' := 68) rfl (hb hby at_64) (by decide) (by decide) k)))
      ·
        simp only [if_neg hm60_0] at k
        exact (XS.icmpYes A34.here hx rfl (pc0 := 60) (pc' := 67) rfl (hb hby at_60) rfl (feq hm60_0).2 (by decide) (by decide) (XS.iconst A34.here hx rfl (hb hby at_67) k))
    refine own_go mg38 ?_
    show own_Go _ _ _ _ (T33.setTop (mkF m 68 #[.val (.int p0), .val (.int p1), .val (.int p2), .val (.int p3), .val (.int p4), .val (.int p5), .val (.int (if (p5 &&& (1 : Int32)) = (0 : Int32) then p3 else (-1 : Int32))), .val (.ref b5), .val (.int (if (if (p5 &&& (1 : Int32)) = (0 : Int32) then p3 else (-1 : Int32)) = (-1 : Int32) then (1 : Int32) else (0 : Int32)))] [(.int (if (f5 (if (p5 &&& (1 : Int32)) = (0 : Int32) then p3 else (-1 : Int32))) = (if (p5 &&& (1 : Int32)) = (0 : Int32) then p3 else (-1 : Int32)) then (1 : Int32) else (0 : Int32)))]))
    refine own_retN A34 hx (t := .boolean) hret (by simp) hlk (by decide) (by decide) (hb hby at_68) ?_
    exact ⟨congrArg (fun z => some (Value.int z)) (by simp only [f0, if_pos hc32]), trivial⟩
  ·
    refine own_go (fun t k => XS.icmpYes A28.here hx rfl (pc0 := 50) (pc' := 67) rfl (hb hby at_50) rfl (feq hc32).2 (by decide) (by decide) k) ?_
    show own_Go _ _ _ _ (T27.setTop (mkF m 67 #[.val (.int p0), .val (.int p1), .val (.int p2), .val (.int p3), .val (.int p4), .val (.int p5), .val (.int (if (p5 &&& (1 : Int32)) = (0 : Int32) then p3 else (-1 : Int32))), .val (.ref b5), .val (.int (if (if (p5 &&& (1 : Int32)) = (0 : Int32) then p3 else (-1 : Int32)) = (-1 : Int32) then (1 : Int32) else (0 : Int32)))] []))
    refine own_go (fun t k => XS.iconst A28.here hx rfl (hb hby at_67) k) ?_
    show own_Go _ _ _ _ (T27.setTop (mkF m 68 #[.val (.int p0), .val (.int p1), .val (.int p2), .val (.int p3), .val (.int p4), .val (.int p5), .val (.int (if (p5 &&& (1 : Int32)) = (0 : Int32) then p3 else (-1 : Int32))), .val (.ref b5), .val (.int (if (if (p5 &&& (1 : Int32)) = (0 : Int32) then p3 else (-1 : Int32)) = (-1 : Int32) then (1 : Int32) else (0 : Int32)))] [(.int (0 : Int32))]))
    refine own_retN A28 hx (t := .boolean) hret (by simp) hlk (by decide) (by decide) (hb hby at_68) ?_
    exact ⟨congrArg (fun z => some (Value.int z)) (by simp only [f0, if_neg hc32] <;> rfl), trivial⟩
theorem law_true (i0 i1 i2 i3 i4 i5 : Int32) : f0 i0 i1 i2 i3 i4 i5 = 1 := by
  unfold f0 f4 f5
  generalize (if (i5 &&& (1 : Int32)) = (0 : Int32) then i3 else (-1 : Int32)) = b
  by_cases h : b = (-1 : Int32)
  · simp only [if_pos h]
    rfl
  · simp only [if_neg h]
    rfl
set_option maxRecDepth 65536 in
set_option maxHeartbeats 40000000 in
theorem comes_1 {Post : Tables → Env → Array Value → State → Outcome → State → Prop} (hpost : ∀ tb e args s v u, (limb_1_1.after args s (.returned v) u = true ∧ limb_1_2.after args s (.returned v) u = true ∧ True) → FrameEnd s (.returned v) u (Jvm.fieldLocs frame_1_writes args s ++ Jvm.arrayLocs frame_1_arrays args s ++ Jvm.staticLocs frame_1_statics s) 16 128 → Post tb e args s (.returned v) u) :
    ArmFor flags0 classFile x code maxLocals ret World_1 tables_1 room_1 Calls_1 rest_1 Pre_1 Post := by
  intro l hfl _ _ p e ha hc hk s m args below hf hA hF happ hP
  obtain ⟨hcalls, hrest, hpre⟩ := hP
  obtain ⟨-, -, -, hnamed, -, -, -, hat⟩ := (Spec.applies_iff hf).mp happ
  obtain ⟨hg, hn⟩ := and_e (Cond.before_iff.mp (show (Jvm.Cond.and given_1 narrow_1).before args s = true from hpre))
  obtain ⟨gc, gr⟩ := and_e hg
  obtain ⟨w0, w1, w2, w3, w4, w5, rfl⟩ : ∃ w0 w1 w2 w3 w4 w5 : Value, args = #[w0, w1, w2, w3, w4, w5] := by
    have hs : args.size = 6 := by simpa [Cond.value, given_1] using gc
    obtain ⟨L⟩ := args
    match L, hs with
    | [w0, w1, w2, w3, w4, w5], _ => exact ⟨w0, w1, w2, w3, w4, w5, rfl⟩
  have hw := fun d (hd : d ∈ tables_1) => atoms_spec (ws := Jvm.Cond.code x code maxLocals ret :: tables_1) hat d (List.mem_cons_of_mem _ hd)
  have hfit : Fit s := fun {y c} hc i hi => by
    obtain ⟨ha, rfl⟩ := Array.getElem?_eq_some_iff.mp hc
    have q := List.all_eq_true.mp ((Array.all_eq_true_iff_forall_mem.mp hF) _ (Array.getElem_mem ha)) i (List.mem_range.mpr hi)
    simpa [Array.getElem?_eq_getElem hi] using q
  obtain ⟨q0, gr0⟩ := and_e gr
  obtain ⟨i0, ei0⟩ := is_v q0
  obtain rfl : w0 = (.int i0) := Option.some.inj ei0
  obtain ⟨q1, gr1⟩ := and_e gr0
  obtain ⟨i1, ei1⟩ := is_v q1
  obtain rfl : w1 = (.int i1) := Option.some.inj ei1
  obtain ⟨q2, gr2⟩ := and_e gr1
  obtain ⟨i2, ei2⟩ := is_v q2
  obtain rfl : w2 = (.int i2) := Option.some.inj ei2
  obtain ⟨q3, gr3⟩ := and_e gr2
  obtain ⟨i3, ei3⟩ := is_v q3
  obtain rfl : w3 = (.int i3) := Option.some.inj ei3
  obtain ⟨q4, gr4⟩ := and_e gr3
  obtain ⟨i4, ei4⟩ := is_v q4
  obtain rfl : w4 = (.int i4) := Option.some.inj ei4
  obtain ⟨i5, ei5⟩ := is_v gr4
  obtain rfl : w5 = (.int i5) := Option.some.inj ei5
  obtain ⟨n, o, h1, h2, h3, _, L, rfl, ⟨⟨rfl, hQ⟩, N⟩, hq⟩ := rm0 l s _ hw i0 i1 i2 i3 i4 i5  s.heap s.heap.size (Old.start s) (Nat.le_refl _) tables_1 p e ha hc hk s m _ below hf ((Spec.applies_iff_loose hf).mp happ).1 ⟨rfl, State.Warmed39.refl s, rfl⟩ trivial
  refine ⟨n, _, h1, h2, h3, hpost _ _ _ _ _ _ ⟨Cond.after_iff.mpr rfl, Cond.after_iff.mpr (eq_i res_at (Term.int_eval (1)) (congrArg Value.int (law_true i0 i1 i2 i3 i4 i5 ))), trivial⟩ ⟨hq.1, hq.2.1, (hq.2.2.sift fun y hy => Or.inr (N y hy)).mono (by decide) (by decide)⟩⟩
theorem main_1_1 : Claimed_1_1 := comes_1 fun _ _ _ _ _ _ h hF => ⟨h.1, hF⟩
theorem main_1_2 : Claimed_1_2 := comes_1 fun _ _ _ _ _ _ h hF => ⟨h.2.1, hF⟩
end Jvm.Pilot.@@N@@
namespace Jvm.Pilot.@@N@@
open Jvm Jvm.ClassFile Sem Op Lib Jvm.Free Jvm.Stand Jvm.Pilot.@@N@@.Jvm.D
/-! MADE BY PROGRAM (witnessworld.py) out of the Statement's table words and the real class files: 10 classes; the members and pool entries that the words name. The judged class is class 1, her method 1. -/
namespace start1
open Jvm.ClassFile
def u (s : String) : CpInfo := .utf8 (stringToUtf16 s)
/-- a pool by its gaps: so many unusable entries, then the entry; so many at the end -/
def gap : Nat → List CpInfo → List CpInfo
  | 0, r => r
  | n + 1, r => .unusable :: gap n r
def poolList (es : List (Nat × CpInfo)) (last : Nat) : List CpInfo := es.foldr (fun e r => gap e.1 (e.2 :: r)) (gap last [])
def pool (es : List (Nat × CpInfo)) (last : Nat) : Array CpInfo := ⟨poolList es last⟩
def fileOf (pool : Array CpInfo) (this : Nat) (attrs : Array Attribute := #[]) (ms : Array MethodInfo := #[]) (fl : Nat := 33) (sup : Nat := 0) (ifs : Array Nat := #[]) (fds : Array FieldInfo := #[]) : ClassFile where
  minorVersion := 0
  majorVersion := 65
  constantPool := pool
  accessFlags := fl
  thisClass := this
  superClass := sup
  interfaces := ifs
  fields := fds
  methods := ms
  attributes := attrs
def plain (name : String) (sup : Option ClassId) : Class where
  name := name
  kind := .ordinary
  loader := none
  accessFlags := 33
  super := sup
  interfaces := #[]
  cf := none
  fields := #[]
  methods := #[]
  instanceTypes := #[]
  staticTypes := #[]
  resolved := #[]
  callSites := []
  init := .initialized
  statics := none
  mirror := none

def pool0 : Array CpInfo := pool [(5, u "<init>"), (0, u "()V"), (1, .class_ 10), (1, u "java/lang/Object")] 113

def k0c0 : Code := { maxStack := 0, maxLocals := 1, code := object_method_1_code, exceptionTable := #[], attributes := #[] }
def k0m0 : Method := { name := "<init>", desc := "()V", sig := { parameters := [], returnType := none }, accessFlags := 1, code := some k0c0 }
/-- java/lang/Object -/
def k0 : Class := { plain "java/lang/Object" none with
  accessFlags := 33
  interfaces := #[]
  cf := some (fileOf pool0 8 #[] #[{ accessFlags := 1, nameIndex := 5, descriptorIndex := 6, attributes := #[] }] 33 0 #[] #[])
  fields := #[]
  methods := #[k0m0]
  instanceTypes := #[]
  staticTypes := #[]
  resolved := Array.replicate 124 none
  statics := none }

def pool1 : Array CpInfo := pool [(2, .class_ 4), (1, u "java/lang/Object"), (0, u "<init>"), (0, u "()V"), (0, .class_ 8), (0, u "com/example/bounded_commute/boundedcommute/engine/BoardingGroup"), (0, .methodref 7 10), (0, .nameAndType 5 11), (0, u "(IIIII)V"), (0, .methodref 7 13), (0, .nameAndType 14 15), (0, u "isStranded"), (0, u "()Z"), (0, .methodref 7 17), (0, .nameAndType 18 19), (0, u "boardedBus"), (0, u "()I"), (0, .class_ 21), (0, u "com/example/bounded_commute/boundedcommute/engine/BoardingGroupIsStrandedPinLaw"), (2, u "law"), (0, u "(IIIIII)Z")] 3

def k1m0 : Method := { name := "<init>", desc := "()V", sig := { parameters := [], returnType := none }, accessFlags := 1, code := none }
def k1c1 : Code := { maxStack := 7, maxLocals := 9, code := code, exceptionTable := #[], attributes := #[] }
def k1m1 : Method := { name := "law", desc := "(IIIIII)Z", sig := { parameters := [.int, .int, .int, .int, .int, .int], returnType := some .boolean }, accessFlags := 9, code := some k1c1 }
/-- com/example/bounded_commute/boundedcommute/engine/BoardingGroupIsStrandedPinLaw -/
def k1 : Class := { plain "com/example/bounded_commute/boundedcommute/engine/BoardingGroupIsStrandedPinLaw" (some 0) with
  accessFlags := 49
  interfaces := #[]
  cf := some (fileOf pool1 20 #[] #[{ accessFlags := 1, nameIndex := 5, descriptorIndex := 6, attributes := #[] }, { accessFlags := 9, nameIndex := 24, descriptorIndex := 25, attributes := #[] }] 49 2 #[] #[])
  fields := #[]
  methods := #[k1m0, k1m1]
  instanceTypes := #[]
  staticTypes := #[]
  resolved := Array.replicate 29 none
  statics := none }

def pool2 : Array CpInfo := pool [(1, .methodref 2 3), (0, .class_ 4), (0, .nameAndType 5 6), (0, u "java/lang/Object"), (0, u "<init>"), (0, u "()V"), (0, .class_ 8), (0, u "java/lang/Record")] 13

def k2c0 : Code := { maxStack := 1, maxLocals := 1, code := jdk_30_method_1_code, exceptionTable := #[], attributes := #[] }
def k2m0 : Method := { name := "<init>", desc := "()V", sig := { parameters := [], returnType := none }, accessFlags := 4, code := some k2c0 }
/-- java/lang/Record -/
def k2 : Class := { plain "java/lang/Record" (some 0) with
  accessFlags := 1057
  interfaces := #[]
  cf := some (fileOf pool2 7 #[] #[{ accessFlags := 4, nameIndex := 5, descriptorIndex := 6, attributes := #[] }] 1057 2 #[] #[])
  fields := #[]
  methods := #[k2m0]
  instanceTypes := #[]
  staticTypes := #[]
  resolved := Array.replicate 22 none
  statics := none }

def pool3 : Array CpInfo := pool [(1, .methodref 2 3), (0, .class_ 4), (0, .nameAndType 5 6), (0, u "java/lang/Record"), (0, u "<init>"), (0, u "()V"), (0, .fieldref 8 9), (0, .class_ 10), (0, .nameAndType 11 12), (0, u "com/example/bounded_commute/boundedcommute/engine/BoardingGroup"), (0, u "station"), (0, u "I"), (0, .fieldref 8 14), (0, .nameAndType 15 12), (0, u "type"), (0, .fieldref 8 17), (0, .nameAndType 18 12), (0, u "chosenBus"), (0, .fieldref 8 20), (0, .nameAndType 21 12), (0, u "boardedBus"), (0, .fieldref 8 23), (0, .nameAndType 24 12), (0, u "riders"), (12, u "STRANDED"), (2, u "(IIIII)V"), (3, u "isStranded"), (0, u "()Z"), (2, u "()I")] 25

def k3c0 : Code := { maxStack := 2, maxLocals := 6, code := prog_3_method_1_code, exceptionTable := #[], attributes := #[] }
def k3m0 : Method := { name := "<init>", desc := "(IIIII)V", sig := { parameters := [.int, .int, .int, .int, .int], returnType := none }, accessFlags := 1, code := some k3c0 }
def k3c1 : Code := { maxStack := 2, maxLocals := 1, code := prog_3_method_2_code, exceptionTable := #[], attributes := #[] }
def k3m1 : Method := { name := "isStranded", desc := "()Z", sig := { parameters := [], returnType := some .boolean }, accessFlags := 1, code := some k3c1 }
def k3c2 : Code := { maxStack := 1, maxLocals := 1, code := prog_3_method_9_code, exceptionTable := #[], attributes := #[] }
def k3m2 : Method := { name := "boardedBus", desc := "()I", sig := { parameters := [], returnType := some .int }, accessFlags := 1, code := some k3c2 }
/-- com/example/bounded_commute/boundedcommute/engine/BoardingGroup -/
def k3 : Class := { plain "com/example/bounded_commute/boundedcommute/engine/BoardingGroup" (some 2) with
  accessFlags := 49
  interfaces := #[]
  cf := some (fileOf pool3 8 #[] #[{ accessFlags := 1, nameIndex := 5, descriptorIndex := 40, attributes := #[] }, { accessFlags := 1, nameIndex := 44, descriptorIndex := 45, attributes := #[] }, { accessFlags := 1, nameIndex := 21, descriptorIndex := 48, attributes := #[] }] 49 2 #[] #[{ accessFlags := 18, nameIndex := 11, descriptorIndex := 12, attributes := #[] }, { accessFlags := 18, nameIndex := 15, descriptorIndex := 12, attributes := #[] }, { accessFlags := 18, nameIndex := 18, descriptorIndex := 12, attributes := #[] }, { accessFlags := 18, nameIndex := 21, descriptorIndex := 12, attributes := #[] }, { accessFlags := 18, nameIndex := 24, descriptorIndex := 12, attributes := #[] }, { accessFlags := 25, nameIndex := 37, descriptorIndex := 12, attributes := #[] }])
  fields := #[{ name := "station", type := .int, accessFlags := 18, slot := 0, constantValue := 0 }, { name := "type", type := .int, accessFlags := 18, slot := 1, constantValue := 0 }, { name := "chosenBus", type := .int, accessFlags := 18, slot := 2, constantValue := 0 }, { name := "boardedBus", type := .int, accessFlags := 18, slot := 3, constantValue := 0 }, { name := "riders", type := .int, accessFlags := 18, slot := 4, constantValue := 0 }, { name := "STRANDED", type := .int, accessFlags := 25, slot := 0, constantValue := 0 }]
  methods := #[k3m0, k3m1, k3m2]
  instanceTypes := #[.int, .int, .int, .int, .int]
  staticTypes := #[.int]
  resolved := Array.replicate 74 none
  statics := none }

def pool4 : Array CpInfo := pool [(1, u "java/lang/Cloneable"), (0, .class_ 1), (0, u "java/lang/Object"), (0, .class_ 3)] 3

/-- java/lang/Cloneable -/
def k4 : Class := { plain "java/lang/Cloneable" (some 0) with
  accessFlags := 1537
  interfaces := #[]
  cf := some (fileOf pool4 2 #[] #[] 1537 4 #[] #[])
  fields := #[]
  methods := #[]
  instanceTypes := #[]
  staticTypes := #[]
  resolved := Array.replicate 8 none
  statics := none }

def pool5 : Array CpInfo := pool [(1, u "java/io/Serializable"), (0, .class_ 1), (0, u "java/lang/Object"), (0, .class_ 3)] 3

/-- java/io/Serializable -/
def k5 : Class := { plain "java/io/Serializable" (some 0) with
  accessFlags := 1537
  interfaces := #[]
  cf := some (fileOf pool5 2 #[] #[] 1537 4 #[] #[])
  fields := #[]
  methods := #[]
  instanceTypes := #[]
  staticTypes := #[]
  resolved := Array.replicate 8 none
  statics := none }

/-- the primitive byte -/
def k6 : Class := { plain "byte" none with kind := .primitive 'B', accessFlags := 0x411 }
/-- [B -/
def k7 : Class := { plain "[B" (some 0) with kind := .array 6 .byte, interfaces := #[4, 5], accessFlags := 1041 }

/-- the primitive int -/
def k8 : Class := { plain "int" none with kind := .primitive 'I', accessFlags := 0x411 }
/-- [I -/
def k9 : Class := { plain "[I" (some 0) with kind := .array 8 .int, interfaces := #[4, 5], accessFlags := 1041 }

def heap : Heap := #[]
def classes : Array Class := #[k0, k1, k2, k3, k4, k5, k6, k7, k8, k9]
def interned : List (Array UInt16 × Addr) := []
def slotsUsed : Nat := 0
def theMethod : MethodId := ⟨1, 1⟩
def args0 : Array Value := #[.int 1, .int 2, .int 3, .int 4, .int 5, .int 6]
def aboutOver (below : List Frame) : State where
  vm := { classes := classes, interned := interned.toArray }
  heap := heap
  slotsUsed := slotsUsed
  threads := #[{ frames := .invoking theMethod args0 :: below }]
def below0 : List Frame := [.native { method := ⟨0, 0⟩, args := #[] }]
def about1 : State := aboutOver below0
def p0 : Program := .bare "" "" ""
def e0 : Env := launch0.env 0 0 0
theorem w_frames : about1.frames = Frame.invoking theMethod args0 :: below0 := rfl
set_option maxRecDepth 65536 in
theorem w_args : argsFit about1.vm theMethod args0 = true := by decide +kernel
set_option maxRecDepth 65536 in
theorem w_heap : heapFits about1 = true := by decide +kernel
set_option maxRecDepth 65536 in
theorem w_runnable : about1.curStatus? = some .runnable := by decide +kernel
set_option maxRecDepth 65536 in
theorem w_alone : about1.alone = true := by decide +kernel
set_option maxRecDepth 65536 in
theorem w_named : about1.methodNamed? x = some theMethod := by decide +kernel
set_option maxRecDepth 65536 in
theorem w_hears : about1.hears theMethod below0 = true := by decide +kernel
set_option maxRecDepth 65536 in
theorem w_ripe : about1.ripe theMethod args0 below0 = true := by decide +kernel
theorem w_running : about1.status = .running := rfl
set_option maxRecDepth 65536 in
theorem w_room : about1.hasRoom e0.platform room_1 = true :=
  launch0.hasRoom_least _ room_1 (by decide +kernel) (by decide +kernel) (by decide +kernel) (by decide +kernel) (by decide +kernel) (by decide +kernel)
theorem allAtoms_all (ts : List Jvm.Cond) (a : Array Jvm.Value) (st : Jvm.State) : (allAtoms ts).before a st = ts.all (fun c => c.before a st) := by
  induction ts with
  | nil => rfl
  | cons c t ih =>
    show (Jvm.Cond.and c (allAtoms t)).before a st = _
    rw [Jvm.Cond.before_and, ih, List.all_cons]
def words1 : List Jvm.Cond := Jvm.Cond.code x code maxLocals ret :: tables_1
/-- a 'code' word, met by the world's own term for the bytes: nothing is compared byte by byte -/
theorem code_word {y : MethodName} {bytes : ByteArray} {mx : Nat} {rt : Option FieldType} {a : Array Value} {s : State} {m : MethodId} {meth : Method} {c : Code} (h1 : s.methodNamed? y = some m) (h2 : s.vm.method? m = some meth) (h3 : meth.code = some c) (h4 : c.code = bytes)
    (h5 : (c.maxLocals == mx && c.exceptionTable.isEmpty && decide (c.maxStack ≤ mostOperands) && decide (meth.sig.returnType = rt) && !meth.locks && decide (parseMethodDescriptor y.desc = some meth.sig)) = true) : (Jvm.Cond.code y bytes mx rt).before a s = true := by
  simp only [Bool.and_eq_true, beq_iff_eq, Bool.not_eq_true', decide_eq_true_eq] at h5
  obtain ⟨⟨⟨⟨⟨g1, g2⟩, g3⟩, g4⟩, g5⟩, g6⟩ := h5
  simp [Cond.before, Cond.holds, Cond.value, h1, h2, h3, h4, g1, g2, g3, g4, g5, g6]
def isCode : Jvm.Cond → Bool
  | .code _ _ _ _ => true
  | _ => false
theorem all_split {L : List Jvm.Cond} {P : Jvm.Cond → Bool} (h1 : L.all (fun c => isCode c || P c) = true) (h2 : ∀ c ∈ L.filter isCode, P c = true) : L.all P = true := by
  refine List.all_eq_true.mpr fun c hc => ?_
  have h := List.all_eq_true.mp h1 c hc
  rcases Bool.eq_false_or_eq_true (isCode c) with hi | hi
  · exact h2 c (List.mem_filter.mpr ⟨hc, hi⟩)
  · simpa [hi] using h
set_option maxRecDepth 65536 in
theorem w_c0 : (Jvm.Cond.code x code maxLocals ret).before args0 about1 = true := code_word (m := ⟨1, 1⟩) (meth := k1m1) (c := k1c1) (by decide +kernel) rfl rfl rfl (by decide +kernel)
set_option maxRecDepth 65536 in
theorem w_c1 : (Jvm.Cond.code ({ cls := "com/example/bounded_commute/boundedcommute/engine/BoardingGroup", name := "<init>", desc := "(IIIII)V" } : Jvm.MethodName) prog_3_method_1_code (6 : Nat) (Option.none : Option Jvm.ClassFile.FieldType)).before args0 about1 = true := code_word (m := ⟨3, 0⟩) (meth := k3m0) (c := k3c0) (by decide +kernel) rfl rfl rfl (by decide +kernel)
set_option maxRecDepth 65536 in
theorem w_c2 : (Jvm.Cond.code ({ cls := "java/lang/Record", name := "<init>", desc := "()V" } : Jvm.MethodName) jdk_30_method_1_code (1 : Nat) (Option.none : Option Jvm.ClassFile.FieldType)).before args0 about1 = true := code_word (m := ⟨2, 0⟩) (meth := k2m0) (c := k2c0) (by decide +kernel) rfl rfl rfl (by decide +kernel)
set_option maxRecDepth 65536 in
theorem w_c3 : (Jvm.Cond.code ({ cls := "java/lang/Object", name := "<init>", desc := "()V" } : Jvm.MethodName) object_method_1_code (1 : Nat) (Option.none : Option Jvm.ClassFile.FieldType)).before args0 about1 = true := code_word (m := ⟨0, 0⟩) (meth := k0m0) (c := k0c0) (by decide +kernel) rfl rfl rfl (by decide +kernel)
set_option maxRecDepth 65536 in
theorem w_c4 : (Jvm.Cond.code ({ cls := "com/example/bounded_commute/boundedcommute/engine/BoardingGroup", name := "isStranded", desc := "()Z" } : Jvm.MethodName) prog_3_method_2_code (1 : Nat) (Option.some Jvm.ClassFile.FieldType.boolean)).before args0 about1 = true := code_word (m := ⟨3, 1⟩) (meth := k3m1) (c := k3c1) (by decide +kernel) rfl rfl rfl (by decide +kernel)
set_option maxRecDepth 65536 in
theorem w_c5 : (Jvm.Cond.code ({ cls := "com/example/bounded_commute/boundedcommute/engine/BoardingGroup", name := "boardedBus", desc := "()I" } : Jvm.MethodName) prog_3_method_9_code (1 : Nat) (Option.some Jvm.ClassFile.FieldType.int)).before args0 about1 = true := code_word (m := ⟨3, 2⟩) (meth := k3m2) (c := k3c2) (by decide +kernel) rfl rfl rfl (by decide +kernel)
def codes1 : List Jvm.Cond := [Jvm.Cond.code x code maxLocals ret, Jvm.Cond.code ({ cls := "com/example/bounded_commute/boundedcommute/engine/BoardingGroup", name := "<init>", desc := "(IIIII)V" } : Jvm.MethodName) prog_3_method_1_code (6 : Nat) (Option.none : Option Jvm.ClassFile.FieldType), Jvm.Cond.code ({ cls := "java/lang/Record", name := "<init>", desc := "()V" } : Jvm.MethodName) jdk_30_method_1_code (1 : Nat) (Option.none : Option Jvm.ClassFile.FieldType), Jvm.Cond.code ({ cls := "java/lang/Object", name := "<init>", desc := "()V" } : Jvm.MethodName) object_method_1_code (1 : Nat) (Option.none : Option Jvm.ClassFile.FieldType), Jvm.Cond.code ({ cls := "com/example/bounded_commute/boundedcommute/engine/BoardingGroup", name := "isStranded", desc := "()Z" } : Jvm.MethodName) prog_3_method_2_code (1 : Nat) (Option.some Jvm.ClassFile.FieldType.boolean), Jvm.Cond.code ({ cls := "com/example/bounded_commute/boundedcommute/engine/BoardingGroup", name := "boardedBus", desc := "()I" } : Jvm.MethodName) prog_3_method_9_code (1 : Nat) (Option.some Jvm.ClassFile.FieldType.int)]
set_option maxRecDepth 65536 in
theorem codes_eq : words1.filter isCode = codes1 := rfl
theorem w_codes : ∀ c ∈ words1.filter isCode, c.before args0 about1 = true := by
  rw [codes_eq]
  intro c hc
  simp only [codes1, List.mem_cons, List.not_mem_nil, or_false] at hc
  rcases hc with rfl | rfl | rfl | rfl | rfl | rfl
  · exact w_c0
  · exact w_c1
  · exact w_c2
  · exact w_c3
  · exact w_c4
  · exact w_c5
set_option maxRecDepth 65536 in
theorem w_t1 : (words1.take 24).all (fun c => isCode c || c.before args0 about1) = true := by decide +kernel
set_option maxRecDepth 65536 in
theorem w_t2 : (words1.drop 24).all (fun c => isCode c || c.before args0 about1) = true := by decide +kernel
theorem w_tables : (allAtoms (Jvm.Cond.code x code maxLocals ret :: tables_1)).before args0 about1 = true := by
  rw [allAtoms_all]
  show words1.all (fun c => c.before args0 about1) = true
  refine all_split ?_ w_codes
  rw [← List.take_append_drop 24 words1, List.all_append, w_t1, w_t2]
  rfl
set_option maxRecDepth 65536 in
theorem w_case : (Jvm.Cond.and given_1 narrow_1).before args0 about1 = true := by decide +kernel
theorem w_applies : (headSpec (Jvm.Cond.code x code maxLocals ret :: tables_1) room_1).applies x e0.platform about1 = true :=
  (Spec.applies_iff w_frames).mpr ⟨w_running, w_runnable, w_alone, w_named, w_hears, w_ripe, w_room, w_tables⟩
theorem atStart : AtStart classFile x code maxLocals ret World_1 tables_1 room_1 Calls_1 rest_1 Pre_1 launch0 p0 e0 about1 theMethod args0 below0 :=
  ⟨lists_1, trivial, launch0.admits_env _ _ _, launch0.least_env, fairChoices_fair.cas, fairChoices_fair.clock, w_frames, w_args, w_heap, w_applies, trivial, trivial, w_case⟩
end start1
theorem witness_1 : WitnessClaimed_1 := ⟨start1.p0, start1.e0, start1.about1, start1.theMethod, start1.args0, start1.below0, start1.atStart⟩
end Jvm.Pilot.@@N@@
