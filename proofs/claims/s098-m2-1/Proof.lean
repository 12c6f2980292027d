import JvmDerived
import JvmDerived.Pilot.@@N@@Statement
import JvmDerived.Pilot.@@N@@Code
set_option linter.unusedVariables false
set_option linter.unusedSimpArgs false
namespace Jvm.Pilot.@@N@@
open Jvm Jvm.ClassFile Sem Op Lib Jvm.Free Jvm.Stand Jvm.LawKit Jvm.RoadKit Bundle Jvm.Pilot.@@N@@.Jvm.D
section OwnKit
variable {p : Program} {l : Launch} {e : Env} {R : Room} {s : State} {m : MethodId} {args : Array Value} {below : List Frame} {meth : Method} {c : Code} {T : State} {locs : List Loc} {cells slots : Nat} {Z : State} {a0 : Array Value} {h : Heap} {n0 : Nat} {G : State → Outcome → Prop} {kc ks : Nat} {Q : Option Value → Heap → Prop}
/-- what is left of a walk: from U the body comes to an end of which G holds -/
def own_Go (tb : Tables) (e : Env) (below : List Frame) (G : State → Outcome → Prop) (U : State) : Prop := ∃ s₂ o, Steps tb e below U s₂ ∧ s₂.status = .running ∧ Ended s₂ below o ∧ G s₂ o
theorem own_go {tb : Tables} {U U' : State} (f : ∀ t, Steps tb e below U' t → Steps tb e below U t) (k : own_Go tb e below G U') : own_Go tb e below G U := by
  obtain ⟨a, b, c, d⟩ := k
  exact ⟨a, b, f _ c, d⟩
/-- where the run stands: its heap is h, nothing below n0 has been written -/
def own_At (p : Program) (l : Launch) (e : Env) (R : Room) (s : State) (m : MethodId) (args : Array Value) (below : List Frame) (meth : Method) (c : Code) (n0 : Nat) (T : State) (h : Heap) (cells slots : Nat) : Prop :=
  ∃ locs, Stand p l e R s m args below meth c T locs cells slots ∧ T.heap = h ∧ Fr n0 locs
theorem own_At.here (A : own_At p l e R s m args below meth c n0 T h cells slots) : At T m c below := by obtain ⟨_, X, -, -⟩ := A; exact X.here
theorem own_At.heap (A : own_At p l e R s m args below meth c n0 T h cells slots) : T.heap = h := by obtain ⟨_, -, q, -⟩ := A; exact q
/-- the end of a body: it returns v, Q holds of v and the heap -/
def own_End (n0 : Nat) (s : State) (kc ks : Nat) (Q : Option Value → Heap → Prop) : State → Outcome → Prop := fun s₂ o => ∃ v L, o = .returned v ∧ (Q v s₂.heap ∧ Fr n0 L) ∧ FrameEnd s o s₂ L kc ks
theorem own_leave (A : own_At p l e R s m args below meth c n0 T h cells slots) {v : Option Value} (hv : meth.sig.returnType = none → v = none) (hlk : meth.locks = false) (hc : cells ≤ kc) (hs : slots ≤ ks) (q : Q v h) {U : State}
    (st : ∀ locs, Stand p l e R s m args below meth c T locs cells slots → ∀ fs, (∀ (f : JFrame) (acts : List Action), f.method = m → f.locked = none → f.entered = [] → (doReturn e (T.setTop f) acts v).1 = T.setFrames fs) → Steps p.tables e below U (T.setFrames fs)) : own_Go p.tables e below (own_End n0 s kc ks Q) U := by
  obtain ⟨locs, X, rfl, N⟩ := A
  obtain ⟨fs, hr, hrun, hended, hW, hsame⟩ := X.leave hv hlk
  exact ⟨_, _, st locs X fs hr, hrun, hended, _, _, rfl, ⟨q, N⟩, ⟨_, rfl⟩, hW, hsame.mono hc hs⟩
theorem own_retI (A : own_At p l e R s m args below meth c n0 T h cells slots) (hx : p.tables.exec = Jvm.exec) (hret : meth.sig.returnType = some .int) (hlk : meth.locks = false) (hc : cells ≤ kc) (hs : slots ≤ ks) {pc : Nat} {Ls : Array Slot} {z : Int32} {rest : List Value} (hd : decode c.code pc = .ok (.ireturn, 1)) (q : Q (some (.int z)) h) :
    own_Go p.tables e below (own_End n0 s kc ks Q) (T.setTop (mkF m pc Ls (.int z :: rest))) :=
  own_leave A (fun q => by rw [hret] at q; cases q) hlk hc hs q fun _ X _ hr => retOut X hx hret rfl (Or.inl ⟨rfl, Or.inl rfl, _, rfl⟩) hd hr
theorem own_retN (A : own_At p l e R s m args below meth c n0 T h cells slots) (hx : p.tables.exec = Jvm.exec) {t : FieldType} (hret : meth.sig.returnType = some t) (ht : t = .boolean ∨ t = .byte ∨ t = .char ∨ t = .short) (hlk : meth.locks = false) (hc : cells ≤ kc) (hs : slots ≤ ks) {pc : Nat} {Ls : Array Slot} {z : Int32} {rest : List Value} (hd : decode c.code pc = .ok (.ireturn, 1)) (q : Q (some (.int (nar t z))) h) :
    own_Go p.tables e below (own_End n0 s kc ks Q) (T.setTop (mkF m pc Ls (.int z :: rest))) :=
  own_leave A (fun q => by rw [hret] at q; cases q) hlk hc hs q fun _ X _ hr => retN X hx hret ht hd hr
theorem own_retJ (A : own_At p l e R s m args below meth c n0 T h cells slots) (hx : p.tables.exec = Jvm.exec) (hret : meth.sig.returnType = some .long) (hlk : meth.locks = false) (hc : cells ≤ kc) (hs : slots ≤ ks) {pc : Nat} {Ls : Array Slot} {z : Int64} {rest : List Value} (hd : decode c.code pc = .ok (.lreturn, 1)) (q : Q (some (.long z)) h) :
    own_Go p.tables e below (own_End n0 s kc ks Q) (T.setTop (mkF m pc Ls (.long z :: rest))) :=
  own_leave A (fun q => by rw [hret] at q; cases q) hlk hc hs q fun _ X _ hr => retOut X hx hret rfl (Or.inr (Or.inl ⟨rfl, rfl, _, rfl⟩)) hd hr
theorem own_retD (A : own_At p l e R s m args below meth c n0 T h cells slots) (hx : p.tables.exec = Jvm.exec) (hret : meth.sig.returnType = some .double) (hlk : meth.locks = false) (hc : cells ≤ kc) (hs : slots ≤ ks) {pc : Nat} {Ls : Array Slot} {z : UInt64} {rest : List Value} (hd : decode c.code pc = .ok (.dreturn, 1)) (q : Q (some (.double z)) h) :
    own_Go p.tables e below (own_End n0 s kc ks Q) (T.setTop (mkF m pc Ls (.double z :: rest))) :=
  own_leave A (fun q => by rw [hret] at q; cases q) hlk hc hs q fun _ X _ hr => retOut X hx hret rfl (Or.inr (Or.inr (Or.inl ⟨rfl, rfl, _, rfl⟩))) hd hr
theorem own_retA (A : own_At p l e R s m args below meth c n0 T h cells slots) (hx : p.tables.exec = Jvm.exec) {t : FieldType} (hret : meth.sig.returnType = some t) (ht : t.isReference = true) (hlk : meth.locks = false) (hc : cells ≤ kc) (hs : slots ≤ ks) {pc : Nat} {Ls : Array Slot} {w : Value} (hw : w.isRef = true) {rest : List Value} (hd : decode c.code pc = .ok (.areturn, 1)) (q : Q (some w) h) :
    own_Go p.tables e below (own_End n0 s kc ks Q) (T.setTop (mkF m pc Ls (w :: rest))) :=
  own_leave A (fun q => by rw [hret] at q; cases q) hlk hc hs q fun _ X _ hr => retOut X hx hret (by cases t <;> first | rfl | cases ht) (Or.inr (Or.inr (Or.inr (Or.inr ⟨rfl, ht, hw⟩)))) hd hr
theorem own_retV (A : own_At p l e R s m args below meth c n0 T h cells slots) (hx : p.tables.exec = Jvm.exec) (hret : meth.sig.returnType = none) (hlk : meth.locks = false) (hc : cells ≤ kc) (hs : slots ≤ ks) {pc : Nat} {Ls : Array Slot} (hd : decode c.code pc = .ok (.return_, 1)) (q : Q none h) :
    own_Go p.tables e below (own_End n0 s kc ks Q) (T.setTop (mkF m pc Ls [])) :=
  own_leave A (fun _ => rfl) hlk hc hs q fun _ X _ hr => X.returnOut hx hret hd hr
/-- a body's contract: called with as' at the heap h0 it returns, and Q holds of what it returns and of the heap -/
def own_Met (l : Launch) (Z : State) (n0 : Nat) (y : MethodName) (bytes : ByteArray) (maxL : Nat) (ret : Option FieldType) (rm : Room) (as' : Array Value) (h0 : Heap) (Q : Option Value → Heap → Prop) : Prop :=
  ∀ ws, MetFree l y (head1 (Cond.code y bytes maxL ret :: ws) rm) (fun a U => a = as' ∧ Z.Warmed39 U.vm ∧ U.heap = h0) (fun _ _ _ _ _ => True) (fun _ U o U' => ∃ v L, o = .returned v ∧ (Q v U'.heap ∧ Fr n0 L) ∧ FrameEnd U o U' L rm.cells rm.slots)
theorem own_met {y : MethodName} {bytes : ByteArray} {maxL : Nat} {ret : Option FieldType} {rm : Room} {as' : Array Value} {h0 : Heap} (hp : plainFor y = true)
    (body : ∀ (p : Program) (e : Env) (s : State) (m : MethodId) (below : List Frame) (meth : Method) (c : Code) (T : State), p.tables.exec = Jvm.exec → c.code = bytes → c.maxLocals = maxL → s.vm.findClass y.cls = some m.cls → meth.name = y.name → meth.sig.returnType = ret → meth.locks = false → Z.Warmed39 s.vm →
      own_At p l e rm s m as' below meth c n0 T h0 0 0 → own_Go p.tables e below (own_End n0 s rm.cells rm.slots Q) (T.setTop (entryFrame m as' maxL))) : own_Met l Z n0 y bytes maxL ret rm as' h0 Q := by
  intro ws
  refine MetFree.of_bodySF hp hisR ?_
  intro p e s m args below meth c s₁ Bd hml0 hP hK
  obtain ⟨rfl, hZ, hh⟩ := hP
  exact body p e s m below meth c s₁ Bd.exec Bd.bytes hml0 (findClass_of_methodNamed Bd.named) (name_of_methodNamed Bd.named Bd.method).1 Bd.returns Bd.notSynchronized hZ ⟨[], Stand.of_body Bd, by rw [← hh, Bd.state]; rfl, Fr.nil n0⟩
theorem own_callS (A : own_At p l e R s m args below meth c n0 T h cells slots) (hx : p.tables.exec = Jvm.exec) (hZ : Z.Warmed39 s.vm) {own : String} {index : Nat} {y : MethodName} {bytes : ByteArray} {maxL : Nat} {ret : Option FieldType} (hown : s.vm.findClass own = some m.cls)
    (w1 : (Cond.methodLink own index y).before a0 Z = true) (w2 : (Cond.static y).before a0 Z = true) (w3 : (Cond.initialized y.cls).before a0 Z = true) (w4 : (Cond.code y bytes maxL ret).before a0 Z = true) (hy : y.cls ≠ "java/lang/invoke/MethodHandle" ∧ y.cls ≠ "java/lang/invoke/VarHandle")
    {rm : Room} {argsL rest : List Value} (hM : own_Met l Z n0 y bytes maxL ret rm argsL.toArray h Q) (W : Nat) (hfr : rm.frames + 1 ≤ R.frames) (hlo : W + (maxL + 11) + rm.locals ≤ R.locals) {g : JFrame} (hg : g.method = m) (hsize : g.locals.size = c.maxLocals)
    (hlen : ∀ sig, parseMethodDescriptor y.desc = some sig → argsL.length = sig.parameters.length) (hs : g.stack = argsL.reverse ++ rest) (hW : 2 * g.monitorRoom + (rest.map fun v => v.category).sum ≤ W) (hd : decode c.code g.pc = .ok (.invokestatic index, 3))
    (hc : cells + rm.cells ≤ R.cells) (hl : slots + rm.slots ≤ R.slots)
    (k : ∀ v T' h', own_At p l e R s m args below meth c n0 T' h' (cells + rm.cells) (slots + rm.slots) → Q v h' → own_Go p.tables e below G (T'.setTop { g with pc := g.pc + 3, stack := v.toList ++ rest })) : own_Go p.tables e below G (T.setTop g) := by
  obtain ⟨locs, X, eT, N⟩ := A
  obtain ⟨v, _, ⟨T1, L1, k1, s1⟩, -, X1, ⟨Lc, ⟨hQ, N1⟩, l1, y1, z1⟩, st⟩ := Jvm.LawKit.callS X hx (y := y) hown (mvT hZ w1) (mvT hZ w2) (mvT hZ w3) (mvT hZ w4) hy (backOf (Q := fun v h L => Q v h ∧ Fr n0 L) (W := W) (hM []) hZ w4 w3 hfr hlo) hg hsize (argsL := argsL) (rest := rest) hlen hs hW hd (fun _ _ => ⟨rfl, eT, hc, hl⟩)
  dsimp only [Pt.U, Pt.locs, Pt.cells, Pt.slots] at X1 l1 y1 z1 st hQ
  subst l1 y1 z1
  exact own_go (fun t k => st t k) (k v T1 T1.heap ⟨_, X1, rfl, N.app N1⟩ hQ)
theorem own_callV (A : own_At p l e R s m args below meth c n0 T h cells slots) (hx : p.tables.exec = Jvm.exec) (hZ : Z.Warmed39 s.vm) {own C : String} {index : Nat} {y z : MethodName} {bytes : ByteArray} {maxL : Nat} {ret : Option FieldType} (hown : s.vm.findClass own = some m.cls)
    (w1 : (Cond.methodLink own index y).before a0 Z = true) (w2 : (Cond.declares y).before a0 Z = true) (w3 : (Cond.selects C y z).before a0 Z = true) (w4 : (Cond.instanceMethod z).before a0 Z = true) (w5 : (Cond.initialized z.cls).before a0 Z = true) (w6 : (Cond.code z bytes maxL ret).before a0 Z = true) (nf : NotFace s y)
    (hy : y.cls ≠ "java/lang/invoke/MethodHandle" ∧ y.cls ≠ "java/lang/invoke/VarHandle")
    {rm : Room} {b : Addr} {argsL rest : List Value} (E : Exa Z h b C) (hM : own_Met l Z n0 z bytes maxL ret rm (.ref b :: argsL).toArray h Q) (W : Nat) (hfr : rm.frames + 1 ≤ R.frames) (hlo : W + (maxL + 11) + rm.locals ≤ R.locals) {g : JFrame} (hg : g.method = m) (hsize : g.locals.size = c.maxLocals)
    (hlen : ∀ sig, parseMethodDescriptor y.desc = some sig → argsL.length = sig.parameters.length) (hs : g.stack = argsL.reverse ++ .ref b :: rest) (hW : 2 * g.monitorRoom + (rest.map fun v => v.category).sum ≤ W) (hd : decode c.code g.pc = .ok (.invokevirtual index, 3))
    (hc : cells + rm.cells ≤ R.cells) (hl : slots + rm.slots ≤ R.slots)
    (k : ∀ v T' h', own_At p l e R s m args below meth c n0 T' h' (cells + rm.cells) (slots + rm.slots) → Q v h' → own_Go p.tables e below G (T'.setTop { g with pc := g.pc + 3, stack := v.toList ++ rest })) : own_Go p.tables e below G (T.setTop g) := by
  obtain ⟨locs, X, eT, N⟩ := A
  obtain ⟨cq, kq, qa, qb, qc⟩ := isOf hZ eT E
  obtain ⟨v, _, ⟨T1, L1, k1, s1⟩, -, X1, ⟨Lc, ⟨hQ, N1⟩, l1, y1, z1⟩, st⟩ := X.virtualBack hx (y := y) (z := z) hown (mvT hZ w1) (mvT hZ w2) nf (mvT hZ w3) (mvT hZ w4) hy (backOf (Q := fun v h L => Q v h ∧ Fr n0 L) (W := W) (hM []) hZ w6 w5 hfr hlo) qa qc hg hsize (Steps.refl _) (argsL := argsL) (rest := rest) hlen hs hW hd (fun _ _ => ⟨rfl, eT, hc, hl⟩)
  dsimp only [Pt.U, Pt.locs, Pt.cells, Pt.slots] at X1 l1 y1 z1 st hQ
  subst l1 y1 z1
  exact own_go (fun t k => st.trans k) (k v T1 T1.heap ⟨_, X1, rfl, N.app N1⟩ hQ)
theorem own_callI (A : own_At p l e R s m args below meth c n0 T h cells slots) (hx : p.tables.exec = Jvm.exec) (hZ : Z.Warmed39 s.vm) {own : String} {index : Nat} {y : MethodName} (hy1 : y.name = "<init>") {bytes : ByteArray} {maxL : Nat} (hown : s.vm.findClass own = some m.cls)
    (w1 : (Cond.methodLink own index y).before a0 Z = true) (w4 : (Cond.instanceMethod y).before a0 Z = true) (w5 : (Cond.initialized y.cls).before a0 Z = true) (w6 : (Cond.code y bytes maxL none).before a0 Z = true)
    (hy : y.cls ≠ "java/lang/invoke/MethodHandle" ∧ y.cls ≠ "java/lang/invoke/VarHandle")
    {rm : Room} {b : Addr} {argsL rest : List Value} (hM : own_Met l Z n0 y bytes maxL none rm (.ref b :: argsL).toArray h Q) (W : Nat) (hfr : rm.frames + 1 ≤ R.frames) (hlo : W + (maxL + 11) + rm.locals ≤ R.locals) {g : JFrame} (hg : g.method = m) (hsize : g.locals.size = c.maxLocals)
    (hlen : ∀ sig, parseMethodDescriptor y.desc = some sig → argsL.length = sig.parameters.length) (hs : g.stack = argsL.reverse ++ .ref b :: rest) (hW : 2 * g.monitorRoom + (rest.map fun v => v.category).sum ≤ W) (hd : decode c.code g.pc = .ok (.invokespecial index, 3))
    (hc : cells + rm.cells ≤ R.cells) (hl : slots + rm.slots ≤ R.slots)
    (k : ∀ v T' h', own_At p l e R s m args below meth c n0 T' h' (cells + rm.cells) (slots + rm.slots) → Q v h' → own_Go p.tables e below G (T'.setTop { g with pc := g.pc + 3, stack := v.toList ++ rest })) : own_Go p.tables e below G (T.setTop g) := by
  obtain ⟨locs, X, eT, N⟩ := A
  obtain ⟨v, _, ⟨T1, L1, k1, s1⟩, -, X1, ⟨Lc, ⟨hQ, N1⟩, l1, y1, z1⟩, st⟩ := X.specialBack hx (y := y) hy1 hown (mvT hZ w1) (mvT hZ w4) (mvT hZ w6) hy (backOf (Q := fun v h L => Q v h ∧ Fr n0 L) (W := W) (hM []) hZ w6 w5 hfr hlo) hg hsize (Steps.refl _) (a := b) (argsL := argsL) (rest := rest) hlen hs hW hd (fun _ _ => ⟨rfl, eT, hc, hl⟩)
  dsimp only [Pt.U, Pt.locs, Pt.cells, Pt.slots] at X1 l1 y1 z1 st hQ
  subst l1 y1 z1
  exact own_go (fun t k => st.trans k) (k v T1 T1.heap ⟨_, X1, rfl, N.app N1⟩ hQ)
theorem own_initO (A : own_At p l e R s m args below meth c n0 T h cells slots) (hx : p.tables.exec = Jvm.exec) (hZ : Z.Warmed39 s.vm) {own : String} {idx : Nat} (hown : s.vm.findClass own = some m.cls) (w1 : (Cond.methodLink own idx Lib.objectInit).before a0 Z = true) (w2 : (Cond.instanceMethod Lib.objectInit).before a0 Z = true)
    (w3 : (Cond.code Lib.objectInit ⟨#[0xb1]⟩ 1 none).before a0 Z = true) {g : JFrame} (hg : g.method = m) (hsize : g.locals.size = c.maxLocals) {a : Addr} {rest : List Value} (hs : g.stack = .ref a :: rest) (hd : decode c.code g.pc = .ok (.invokespecial idx, 3))
    (hf : 1 ≤ R.frames) (W : Nat) (hW : 2 * g.monitorRoom + (rest.map fun v => v.category).sum ≤ W) (hl : W + 12 ≤ R.locals)
    (k : ∀ T', own_At p l e R s m args below meth c n0 T' h cells slots → own_Go p.tables e below G (T'.setTop { g with pc := g.pc + 3, stack := rest })) : own_Go p.tables e below G (T.setTop g) := by
  obtain ⟨locs, X, eT, N⟩ := A
  obtain ⟨T1, X1, e1, st⟩ := initO X hx hZ hown w1 w2 w3 eT hg hsize hs hd hf hW hl
  exact own_go st (k T1 ⟨_, X1, e1, N⟩)
theorem own_getF (A : own_At p l e R s m args below meth c n0 T h cells slots) (hx : p.tables.exec = Jvm.exec) (hZ : Z.Warmed39 s.vm) {own R0 O n d host : String} {index : Nat} (hown : s.vm.findClass own = some m.cls) (w : (Cond.fieldLink own index R0 n d).before a0 Z = true ∨ (Cond.fieldLinkNest own index R0 n d host).before a0 Z = true) (via : Via Z R0 O n d)
    {a : Addr} {v : Value} (F : Fld Z h a O n d v) {g : JFrame} (hg : g.method = m) {rest : List Value} (hs : g.stack = .ref a :: rest) (hd : decode c.code g.pc = .ok (.getfield index, 3))
    (k : ∀ T', own_At p l e R s m args below meth c n0 T' h cells slots → own_Go p.tables e below G (T'.setTop { g with pc := g.pc + 3, stack := v :: rest })) : own_Go p.tables e below G (T.setTop g) := by
  obtain ⟨locs, X, eT, N⟩ := A
  obtain ⟨T1, X1, e1, st⟩ := getF X hx hZ hown w via eT F hg hs hd
  exact own_go st (k T1 ⟨_, X1, e1, N⟩)
theorem own_getS (A : own_At p l e R s m args below meth c n0 T h cells slots) (hx : p.tables.exec = Jvm.exec) (hZ : Z.Warmed39 s.vm) {own R0 O n d host : String} {index : Nat} (hown : s.vm.findClass own = some m.cls) (w : (Cond.fieldLink own index R0 n d).before a0 Z = true ∨ (Cond.fieldLinkNest own index R0 n d host).before a0 Z = true) (via : Via Z R0 O n d)
    {v : Value} (F : Sta Z h O n d v) {g : JFrame} (hg : g.method = m) (hd : decode c.code g.pc = .ok (.getstatic index, 3))
    (k : ∀ T', own_At p l e R s m args below meth c n0 T' h cells slots → own_Go p.tables e below G (T'.setTop { g with pc := g.pc + 3, stack := v :: g.stack })) : own_Go p.tables e below G (T.setTop g) := by
  obtain ⟨locs, X, eT, N⟩ := A
  obtain ⟨T1, X1, e1, st⟩ := getS2 X hx hZ hown w via eT F hg hd
  exact own_go st (k T1 ⟨_, X1, e1, N⟩)
theorem own_ldcI (A : own_At p l e R s m args below meth c n0 T h cells slots) (hx : p.tables.exec = Jvm.exec) (hZ : Z.Warmed39 s.vm) {own : String} {index : Nat} {v : Int32} (hown : s.vm.findClass own = some m.cls) (w : (Cond.constant own index v).before a0 Z = true) {g : JFrame} (hg : g.method = m) (hd : decode c.code g.pc = .ok (.ldc index, 2))
    (k : own_Go p.tables e below G (T.setTop { g with pc := g.pc + 2, stack := .int v :: g.stack })) : own_Go p.tables e below G (T.setTop g) := by
  obtain ⟨locs, X, eT, N⟩ := A
  exact own_go (X.ldcInt hx hown (mvT hZ w) hg hd) k
theorem own_ldcwI (A : own_At p l e R s m args below meth c n0 T h cells slots) (hx : p.tables.exec = Jvm.exec) (hZ : Z.Warmed39 s.vm) {own : String} {index : Nat} {v : Int32} (hown : s.vm.findClass own = some m.cls) (w : (Cond.constant own index v).before a0 Z = true) {g : JFrame} (hg : g.method = m) (hd : decode c.code g.pc = .ok (.ldc_w index, 3))
    (k : own_Go p.tables e below G (T.setTop { g with pc := g.pc + 3, stack := .int v :: g.stack })) : own_Go p.tables e below G (T.setTop g) := by
  obtain ⟨locs, X, eT, N⟩ := A
  exact own_go (X.ldcwInt hx hown (mvT hZ w) hg hd) k
theorem own_ldcJ (A : own_At p l e R s m args below meth c n0 T h cells slots) (hx : p.tables.exec = Jvm.exec) (hZ : Z.Warmed39 s.vm) {own : String} {index : Nat} {v : Int64} (hown : s.vm.findClass own = some m.cls) (w : (Cond.constantLong own index v).before a0 Z = true) {g : JFrame} (hg : g.method = m) (hd : decode c.code g.pc = .ok (.ldc2_w index, 3))
    (k : own_Go p.tables e below G (T.setTop { g with pc := g.pc + 3, stack := .long v :: g.stack })) : own_Go p.tables e below G (T.setTop g) := by
  obtain ⟨locs, X, eT, N⟩ := A
  exact own_go (X.ldc2Long hx hown (mvT hZ w) hg hd) k
/-- irem, with Java's sign -/
theorem own_irem {tb : Tables} [Ours tb] {target : State} {g : JFrame} (hh : At T m c below) (hx : tb.exec = Jvm.exec) (hg : g.method = m) {x y : Int32} {rest : List Value} (hd : decode c.code g.pc = .ok (.irem, 1)) (hs : g.stack = .int y :: .int x :: rest) (hy : y ≠ 0)
    (hr : Steps tb e below (T.setTop { g with pc := g.pc + 1, stack := .int (x % y) :: rest }) target) : Steps tb e below (T.setTop g) target :=
  XS.irem hh hx hg hd hs hy (by rw [irem_eq_mod]; exact hr)
theorem own_lrem {tb : Tables} [Ours tb] {target : State} {g : JFrame} (hh : At T m c below) (hx : tb.exec = Jvm.exec) (hg : g.method = m) {x y : Int64} {rest : List Value} (hd : decode c.code g.pc = .ok (.lrem, 1)) (hs : g.stack = .long y :: .long x :: rest) (hy : y ≠ 0)
    (hr : Steps tb e below (T.setTop { g with pc := g.pc + 1, stack := .long (x % y) :: rest }) target) : Steps tb e below (T.setTop g) target :=
  XS.lrem hh hx hg hd hs hy (by rw [lrem_mod]; exact hr)
theorem own_aeq {a b : Addr} (h : a = b) : if_acmp.holds .eq (some a) (some b) = true ∧ if_acmp.holds .ne (some a) (some b) = false := by simp [if_acmp.holds, h]
theorem own_ane {a b : Addr} (h : ¬ a = b) : if_acmp.holds .eq (some a) (some b) = false ∧ if_acmp.holds .ne (some a) (some b) = true := by simp [if_acmp.holds, h]
end OwnKit
section OwnHeap
variable {p : Program} {l : Launch} {e : Env} {R : Room} {s : State} {m : MethodId} {args : Array Value} {below : List Frame} {meth : Method} {c : Code} {T : State} {cells slots : Nat} {Z : State} {a0 : Array Value} {h h' : Heap} {n0 : Nat} {G : State → Outcome → Prop} {a b : Addr} {ty : FieldType} {n j : Int32} {f : Int32 → Int32}
/-- an array of ints (bytes, chars, booleans, shorts): its length is n, its place i holds f i -/
def own_Arr (Z : State) (h : Heap) (a : Addr) (ty : FieldType) (n : Int32) (f : Int32 → Int32) : Prop :=
  ∃ cl : Cell, Arr Z h a cl ty ∧ cl.slots.size = n.toNatClampNeg ∧ ¬ n < 0 ∧ ∀ j : Int32, ¬ j < 0 → j < n → cl.slots[j.toNatClampNeg]? = some (.int (f j))
theorem own_Arr.lt (F : own_Arr Z h a ty n f) : a < h.size := by obtain ⟨_, A, -⟩ := F; exact A.lt
theorem own_Arr.ext (F : own_Arr Z h a ty n f) (E : Ext h h') : own_Arr Z h' a ty n f := by obtain ⟨c, A, r⟩ := F; exact ⟨c, A.ext E, r⟩
theorem own_Arr.other {sl : Nat} {v : Value} (F : own_Arr Z h b ty n f) (W : Wr h h' a sl v) (q : b ≠ a) : own_Arr Z h' b ty n f := by obtain ⟨c, A, r⟩ := F; exact ⟨c, A.other W q, r⟩
theorem own_Arr.keep {ws : List Addr} (F : own_Arr Z h a ty n f) (K : Keep h h' ws) (q : a ∉ ws) : own_Arr Z h' a ty n f := by obtain ⟨c, A, r⟩ := F; exact ⟨c, ⟨K.2.1 a c A.1 q, A.2⟩, r⟩
theorem own_Arr.nn (F : own_Arr Z h a ty n f) : ¬ n < 0 := by obtain ⟨_, -, -, q, -⟩ := F; exact q
theorem own_Arr.congr {f' : Int32 → Int32} (F : own_Arr Z h a ty n f) (q : ∀ i, ¬ i < 0 → i < n → f i = f' i) : own_Arr Z h a ty n f' := by
  obtain ⟨c, A, r1, r2, r3⟩ := F
  exact ⟨c, A, r1, r2, fun i hi hn => by rw [r3 i hi hn, q i hi hn]⟩
theorem own_same {i j : Int32} (hi : ¬ i < 0) (hj : ¬ j < 0) (e : i.toNatClampNeg = j.toNatClampNeg) : i = j := by
  apply Int32.toInt_inj.mp
  rw [nat_of hi, nat_of hj, e]
theorem own_Arr.set {v : Int32} (F : own_Arr Z h a ty n f) (hj : ¬ j < 0) (W : Wr h h' a j.toNatClampNeg (.int v)) : own_Arr Z h' a ty n (fun i => if i = j then v else f i) := by
  obtain ⟨c, A, r1, r2, r3⟩ := F
  refine ⟨c.setSlot j.toNatClampNeg (.int v), A.same W, by rw [sz_set]; exact r1, r2, fun i hi hn => ?_⟩
  have hin := inb_of r1 ⟨hi, hn⟩
  by_cases q : i = j
  · subst q
    show _ = some (Value.int (if i = i then v else f i))
    rw [get_hit hin rfl, if_pos rfl]
  · show _ = some (Value.int (if i = j then v else f i))
    rw [get_miss hj hi q, r3 i hi hn, if_neg q]
theorem own_newO (A : own_At p l e R s m args below meth c n0 T h cells slots) (hx : p.tables.exec = Jvm.exec) (hZ : Z.Warmed39 s.vm) {own C : String} {index k : Nat} (hown : s.vm.findClass own = some m.cls) (w : (Cond.classLink own index C).before a0 Z = true) (wi : (Cond.instantiable C k).before a0 Z = true) (wz : (Cond.initialized C).before a0 Z = true)
    {g : JFrame} (hg : g.method = m) (hd : decode c.code g.pc = .ok (.new index, 3)) (hc : cells + 1 ≤ R.cells) (hl : slots + k ≤ R.slots)
    (kk : ∀ T' h' a, a = h.size → own_At p l e R s m args below meth c n0 T' h' (cells + 1) (slots + k) → Ext h h' → Exa Z h' a C → (∀ {O nm d : String} {ty : FieldType}, Laid Z a0 C O nm d → parseFieldDescriptor d = some ty → Fld Z h' a O nm d (defaultValue ty)) → own_Go p.tables e below G (T'.setTop { g with pc := g.pc + 3, stack := .ref a :: g.stack })) : own_Go p.tables e below G (T.setTop g) := by
  obtain ⟨locs, X, eT, N⟩ := A
  obtain ⟨T1, h1, X1, e1, E1, A1, D1, -, st⟩ := newO X hx hZ hown w wi wz eT hg hd hc hl
  exact own_go st (kk T1 h1 h.size rfl ⟨_, X1, e1, N⟩ E1 A1 D1)
theorem own_newP (A : own_At p l e R s m args below meth c n0 T h cells slots) (hx : p.tables.exec = Jvm.exec) (hZ : Z.Warmed39 s.vm) {aty : ArrayType} (w : (Cond.arrayClass (newarray.typeOf aty)).before a0 Z = true) (hty : defaultValue (newarray.typeOf aty) = .int 0) {g : JFrame} (hg : g.method = m) (hd : decode c.code g.pc = .ok (.newarray aty, 2)) {rest : List Value} (hs : g.stack = .int n :: rest)
    (hn : ¬ n < 0) (cap : Nat) (hcap : n.toNatClampNeg ≤ cap) (hb : cap * 8 ≤ 536870912) (hc : cells + 1 ≤ R.cells) (hl : slots + cap ≤ R.slots)
    (kk : ∀ T' h' a, a = h.size → own_At p l e R s m args below meth c n0 T' h' (cells + 1) (slots + cap) → Ext h h' → own_Arr Z h' a (newarray.typeOf aty) n (fun _ => 0) → (∃ k, Arv Z h' a k (newarray.typeOf aty) n [] (.int 0)) → own_Go p.tables e below G (T'.setTop { g with pc := g.pc + 2, stack := .ref a :: rest })) : own_Go p.tables e below G (T.setTop g) := by
  obtain ⟨locs, X, eT, N⟩ := A
  obtain ⟨T1, h1, k1, X1, e1, E1, A1, st⟩ := newP X hx hZ w eT hg hd hs hn hcap hb hc hl
  refine own_go st (kk T1 h1 h.size rfl ⟨_, X1, e1, N⟩ E1 ⟨_, A1, sz_new _ _ _, hn, fun i hi hin => ?_⟩ ⟨k1, hty ▸ Arv.new A1 hn⟩)
  have q := inb_of (c := newA k1 (newarray.typeOf aty) n) (sz_new _ _ _) ⟨hi, hin⟩
  rw [sz_new] at q
  rw [get_new q, hty]
theorem own_putF (A : own_At p l e R s m args below meth c n0 T h cells slots) (hx : p.tables.exec = Jvm.exec) (hZ : Z.Warmed39 s.vm) {own R0 O nm d host C : String} {index kk : Nat} (hown : s.vm.findClass own = some m.cls) (w : (Cond.fieldLink own index R0 nm d).before a0 Z = true ∨ (Cond.fieldLinkNest own index R0 nm d host).before a0 Z = true) (via : Via Z R0 O nm d)
    {v old : Value} (F : Fld Z h a O nm d old) (E : Exa Z h a C) (L : (Cond.lays C O nm d).before a0 Z = true ∨ ((Cond.laysFinal C O nm d).before a0 Z = true ∧ own = O ∧ meth.name = "<init>")) (wi : (Cond.instantiable C kk).before a0 Z = true)
    (hty : parseFieldDescriptor d = some ty) (hn : narrow ty v = v) (hf : fits ty v = true) (q : n0 ≤ a) {g : JFrame} (hg : g.method = m) {rest : List Value} (hs : g.stack = v :: .ref a :: rest) (hd : decode c.code g.pc = .ok (.putfield index, 3))
    (k : ∀ T' h', own_At p l e R s m args below meth c n0 T' h' cells slots → Wr h h' a (Jvm.RoadKit.slotOf Z O nm d) v → own_Go p.tables e below G (T'.setTop { g with pc := g.pc + 3, stack := rest })) : own_Go p.tables e below G (T.setTop g) := by
  obtain ⟨locs, X, eT, N⟩ := A
  obtain ⟨T1, h1, X1, e1, W1, st⟩ := putF X hx hZ hown w via eT F E L wi hty hn hf hg hs hd
  exact own_go st (k T1 h1 ⟨_, X1, e1, Fr.snoc X1 N q⟩ W1)
theorem own_stI (A : own_At p l e R s m args below meth c n0 T h cells slots) (hx : p.tables.exec = Jvm.exec) (hZ : Z.Warmed39 s.vm) {v : Int32} (F : own_Arr Z h a .int n f) (hj : ¬ j < 0 ∧ j < n) (q : n0 ≤ a) {g : JFrame} (hg : g.method = m) {rest : List Value} (hs : g.stack = .int v :: .int j :: .ref a :: rest) (hd : decode c.code g.pc = .ok (.iastore, 1))
    (k : ∀ T' h', own_At p l e R s m args below meth c n0 T' h' cells slots → Wr h h' a j.toNatClampNeg (.int v) → own_Arr Z h' a .int n (fun i => if i = j then v else f i) → own_Go p.tables e below G (T'.setTop { g with pc := g.pc + 1, stack := rest })) : own_Go p.tables e below G (T.setTop g) := by
  obtain ⟨locs, X, eT, N⟩ := A
  obtain ⟨c1, A1, S1, M1, H1⟩ := id F
  obtain ⟨T1, h1, X1, e1, W1, st⟩ := stI X hx hZ eT A1 (inb_of S1 hj) hg hs hd
  exact own_go st (k T1 h1 ⟨_, X1, e1, Fr.snoc X1 N q⟩ W1 (F.set hj.1 W1))
theorem own_stB (A : own_At p l e R s m args below meth c n0 T h cells slots) (hx : p.tables.exec = Jvm.exec) (hZ : Z.Warmed39 s.vm) {v : Int32} (F : own_Arr Z h a .byte n f) (hj : ¬ j < 0 ∧ j < n) (q : n0 ≤ a) {g : JFrame} (hg : g.method = m) {rest : List Value} (hs : g.stack = .int v :: .int j :: .ref a :: rest) (hd : decode c.code g.pc = .ok (.bastore, 1))
    (k : ∀ T' h', own_At p l e R s m args below meth c n0 T' h' cells slots → Wr h h' a j.toNatClampNeg (.int (nar .byte v)) → own_Arr Z h' a .byte n (fun i => if i = j then nar .byte v else f i) → own_Go p.tables e below G (T'.setTop { g with pc := g.pc + 1, stack := rest })) : own_Go p.tables e below G (T.setTop g) := by
  obtain ⟨locs, X, eT, N⟩ := A
  obtain ⟨c1, A1, S1, M1, H1⟩ := id F
  obtain ⟨T1, h1, X1, e1, W1, st⟩ := stB X hx hZ eT A1 (inb_of S1 hj) hg hs hd
  exact own_go st (k T1 h1 ⟨_, X1, e1, Fr.snoc X1 N q⟩ W1 (F.set hj.1 W1))
theorem own_stC (A : own_At p l e R s m args below meth c n0 T h cells slots) (hx : p.tables.exec = Jvm.exec) (hZ : Z.Warmed39 s.vm) {v : Int32} (F : own_Arr Z h a .char n f) (hj : ¬ j < 0 ∧ j < n) (q : n0 ≤ a) {g : JFrame} (hg : g.method = m) {rest : List Value} (hs : g.stack = .int v :: .int j :: .ref a :: rest) (hd : decode c.code g.pc = .ok (.castore, 1))
    (k : ∀ T' h', own_At p l e R s m args below meth c n0 T' h' cells slots → Wr h h' a j.toNatClampNeg (.int (nar .char v)) → own_Arr Z h' a .char n (fun i => if i = j then nar .char v else f i) → own_Go p.tables e below G (T'.setTop { g with pc := g.pc + 1, stack := rest })) : own_Go p.tables e below G (T.setTop g) := by
  obtain ⟨locs, X, eT, N⟩ := A
  obtain ⟨c1, A1, S1, M1, H1⟩ := id F
  obtain ⟨T1, h1, X1, e1, W1, st⟩ := stC X hx hZ eT A1 (inb_of S1 hj) hg hs hd
  exact own_go st (k T1 h1 ⟨_, X1, e1, Fr.snoc X1 N q⟩ W1 (F.set hj.1 W1))
theorem own_ldI (A : own_At p l e R s m args below meth c n0 T h cells slots) (hx : p.tables.exec = Jvm.exec) (hZ : Z.Warmed39 s.vm) (F : own_Arr Z h a .int n f) (hj : ¬ j < 0 ∧ j < n) {g : JFrame} (hg : g.method = m) {rest : List Value} (hs : g.stack = .int j :: .ref a :: rest) (hd : decode c.code g.pc = .ok (.iaload, 1))
    (k : own_Go p.tables e below G (T.setTop { g with pc := g.pc + 1, stack := .int (f j) :: rest })) : own_Go p.tables e below G (T.setTop g) := by
  obtain ⟨locs, X, eT, N⟩ := A
  obtain ⟨c1, A1, S1, M1, H1⟩ := F
  exact own_go (fun t k => X.iaload hx (by rw [eT]; exact A1.1) (State.isArrayOf_alike hZ.alike A1.2.1) A1.2.2 (inb_of S1 hj) (H1 j hj.1 hj.2) hg hs hd t k) k
theorem own_ldB (A : own_At p l e R s m args below meth c n0 T h cells slots) (hx : p.tables.exec = Jvm.exec) (hZ : Z.Warmed39 s.vm) (F : own_Arr Z h a .byte n f) (hj : ¬ j < 0 ∧ j < n) {g : JFrame} (hg : g.method = m) {rest : List Value} (hs : g.stack = .int j :: .ref a :: rest) (hd : decode c.code g.pc = .ok (.baload, 1))
    (k : own_Go p.tables e below G (T.setTop { g with pc := g.pc + 1, stack := .int (f j) :: rest })) : own_Go p.tables e below G (T.setTop g) := by
  obtain ⟨locs, X, eT, N⟩ := A
  obtain ⟨c1, A1, S1, M1, H1⟩ := F
  exact own_go (fun t k => X.baloadBytes hx (by rw [eT]; exact A1.1) (State.isArrayOf_alike hZ.alike A1.2.1) A1.2.2 (inb_of S1 hj) (H1 j hj.1 hj.2) hg hs hd t k) k
theorem own_ldC (A : own_At p l e R s m args below meth c n0 T h cells slots) (hx : p.tables.exec = Jvm.exec) (hZ : Z.Warmed39 s.vm) (F : own_Arr Z h a .char n f) (hj : ¬ j < 0 ∧ j < n) {g : JFrame} (hg : g.method = m) {rest : List Value} (hs : g.stack = .int j :: .ref a :: rest) (hd : decode c.code g.pc = .ok (.caload, 1))
    (k : own_Go p.tables e below G (T.setTop { g with pc := g.pc + 1, stack := .int (f j) :: rest })) : own_Go p.tables e below G (T.setTop g) := by
  obtain ⟨locs, X, eT, N⟩ := A
  obtain ⟨c1, A1, S1, M1, H1⟩ := F
  exact own_go (fun t k => X.caload hx (by rw [eT]; exact A1.1) (State.isArrayOf_alike hZ.alike A1.2.1) A1.2.2 (inb_of S1 hj) (H1 j hj.1 hj.2) hg hs hd t k) k
theorem own_len (A : own_At p l e R s m args below meth c n0 T h cells slots) (hx : p.tables.exec = Jvm.exec) (hZ : Z.Warmed39 s.vm) (F : own_Arr Z h a ty n f) {g : JFrame} (hg : g.method = m) {rest : List Value} (hs : g.stack = .ref a :: rest) (hd : decode c.code g.pc = .ok (.arraylength, 1))
    (k : own_Go p.tables e below G (T.setTop { g with pc := g.pc + 1, stack := .int n :: rest })) : own_Go p.tables e below G (T.setTop g) := by
  obtain ⟨locs, X, eT, N⟩ := A
  obtain ⟨c1, A1, S1, M1, H1⟩ := F
  rw [← len_of S1 M1] at k
  exact own_go (fun t k => X.arraylength hx (by rw [eT]; exact A1.1) (State.isArrayOf_alike hZ.alike A1.2.1) hg hs hd t k) k
end OwnHeap
/-! small facts on ints and longs -/
theorem own_nl {x y : Int32} (h : y.toInt ≤ x.toInt) : ¬ x < y := by rw [Int32.lt_iff_toInt_lt]; omega
theorem own_lc0 {x y : Int64} (h : x.toInt = y.toInt) : lcmpW x y = 0 := (lw_eq x y).mpr (Int64.toInt_inj.mp h)
theorem own_lcge {x y : Int64} (h : y.toInt ≤ x.toInt) : ¬ lcmpW x y < 0 := by rw [lw_lt, Int64.lt_iff_toInt_lt]; omega
theorem own_lcle {x y : Int64} (h : x.toInt ≤ y.toInt) : ¬ 0 < lcmpW x y := by rw [lw_gt, Int64.lt_iff_toInt_lt]; omega
theorem own_I1 : (1 : Int32).toInt = 1 := rfl
theorem own_J1 : (1 : Int64).toInt = 1 := rfl
theorem own_MX : (2147483647 : Int32).toInt = 2147483647 := rfl
theorem own_first (a : Int32) : 1 ≤ ((1 : Int32) + ((a &&& (2147483647 : Int32)) % (2147483647 : Int32))).toInt := by
  have h0 := (c_and a 2147483647 (by decide))
  have h1 := (c_irem (a &&& (2147483647 : Int32)) 2147483647 2147483647 rfl).1 h0.1
  have h2 := c_iadd 1 ((a &&& (2147483647 : Int32)) % (2147483647 : Int32))
  have h3 := rng32 ((1 : Int32) + ((a &&& (2147483647 : Int32)) % (2147483647 : Int32)))
  rw [own_I1] at h2
  omega
theorem own_span (f : Int32) (h : 1 ≤ f.toInt) : ((2147483647 : Int32) - f).toInt = 2147483647 - f.toInt := by
  have h2 := c_isub 2147483647 f
  have h3 := rng32 ((2147483647 : Int32) - f)
  have h4 := rng32 f
  rw [own_MX] at h2
  omega
theorem own_inc (f : Int32) (h : f.toInt < 2147483647) : (f + (1 : Int32)).toInt = f.toInt + 1 := by
  have h2 := c_iadd f 1
  have h3 := rng32 (f + 1)
  have h4 := rng32 f
  rw [own_I1] at h2
  omega
theorem own_ne0 {x : Int32} (h : 0 < x.toInt) : x ≠ 0 := by
  intro q
  subst q
  have : (0 : Int32).toInt = 0 := rfl
  omega
/-- f and a rest of at most k - 1 -/
theorem own_plus (f k b : Int32) (h1 : 0 ≤ f.toInt) (hk : 0 < k.toInt) (h2 : f.toInt + k.toInt ≤ 2147483648) : f.toInt ≤ (f + ((b &&& (2147483647 : Int32)) % k)).toInt ∧ (f + ((b &&& (2147483647 : Int32)) % k)).toInt < f.toInt + k.toInt := by
  have h0 := (c_and b 2147483647 (by decide))
  have h3 := (c_iremV (b &&& (2147483647 : Int32)) k).1 h0.1 hk
  have h4 := c_iadd f ((b &&& (2147483647 : Int32)) % k)
  have h5 := rng32 (f + ((b &&& (2147483647 : Int32)) % k))
  omega
theorem own_diff (x y : Int32) (h1 : 0 ≤ y.toInt) (h2 : y.toInt ≤ x.toInt) : (x - y).toInt = x.toInt - y.toInt := by
  have h3 := c_isub x y
  have h4 := rng32 (x - y)
  have h5 := rng32 x
  omega
theorem ef_1 (m : MethodId) (q0 : Int64) (q1 : Int64) : entryFrame m #[(.long q0), (.long q1)] 4 = mkF m 0 #[.val (.long q0), .second, .val (.long q1), .second] [] := by first | (simp [entryFrame, mkF, argsToLocals, Value.category]; done) | rfl
theorem pf_1 : plainFor (⟨"java/lang/Math", "max", "(JJ)J"⟩ : MethodName) = true := by decide +kernel
theorem d1_0 : decode jdk_29_method_66_code 0 = .ok (.lload_n 0, 1) := by decide +kernel
theorem d1_1 : decode jdk_29_method_66_code 1 = .ok (.lload_n 2, 1) := by decide +kernel
theorem d1_2 : decode jdk_29_method_66_code 2 = .ok (.lcmp, 1) := by decide +kernel
theorem d1_3 : decode jdk_29_method_66_code 3 = .ok (.ifCond .lt 7, 3) := by decide +kernel
theorem d1_10 : decode jdk_29_method_66_code 10 = .ok (.lload_n 2, 1) := by decide +kernel
theorem d1_6 : decode jdk_29_method_66_code 6 = .ok (.lload_n 0, 1) := by decide +kernel
theorem d1_7 : decode jdk_29_method_66_code 7 = .ok (.goto 4, 3) := by decide +kernel
theorem d1_11 : decode jdk_29_method_66_code 11 = .ok (.lreturn, 1) := by decide +kernel
def f1 (q0 : Int64) (q1 : Int64) : Int64 := (if (lcmpW q0 q1) < (0 : Int32) then q1 else q0)
set_option maxRecDepth 65536 in
set_option maxHeartbeats 40000000 in
theorem rm1 (l : Launch) (Z : State) (a0 : Array Value) (hw : ∀ d ∈ tables_1, d.before a0 Z = true) (q0 : Int64) (q1 : Int64) (h0 : Heap) (n0 : Nat) :
    own_Met l Z n0 (⟨"java/lang/Math", "max", "(JJ)J"⟩ : MethodName) jdk_29_method_66_code 4 (some .long) ({ frames := 0, cells := 0, slots := 0, locals := 0 } : Room) #[(.long q0), (.long q1)] h0 (fun v h => v = some (.long (f1 q0 q1)) ∧ h0 = h) := by
  refine own_met pf_1 ?_
  intro p e s m below meth c T0 hx hby hml hown hnm hret hlk hZ A0
  rw [ef_1]
  show own_Go _ _ _ _ (T0.setTop (mkF m 0 #[.val (.long q0), .second, .val (.long q1), .second] []))
  refine own_go (fun t k => XS.lloadN A0.here hx rfl (hb hby d1_0) rfl k) ?_
  show own_Go _ _ _ _ (T0.setTop (mkF m 1 #[.val (.long q0), .second, .val (.long q1), .second] [(.long q0)]))
  refine own_go (fun t k => XS.lloadN A0.here hx rfl (hb hby d1_1) rfl k) ?_
  show own_Go _ _ _ _ (T0.setTop (mkF m 2 #[.val (.long q0), .second, .val (.long q1), .second] [(.long q1), (.long q0)]))
  refine own_go (fun t k => XS.lcmp A0.here hx rfl (hb hby d1_2) rfl k) ?_
  show own_Go _ _ _ _ (T0.setTop (mkF m 3 #[.val (.long q0), .second, .val (.long q1), .second] [(.int (lcmpW q0 q1))]))
  have mg1 : ∀ t, Steps p.tables e below (T0.setTop (mkF m 11 #[.val (.long q0), .second, .val (.long q1), .second] [(.long (if (lcmpW q0 q1) < (0 : Int32) then q1 else q0))])) t → Steps p.tables e below (T0.setTop (mkF m 3 #[.val (.long q0), .second, .val (.long q1), .second] [(.int (lcmpW q0 q1))])) t := by
    intro t k
    by_cases hm3_0 : (lcmpW q0 q1) < (0 : Int32)
    ·
      simp only [if_pos hm3_0] at k
      exact (XS.ifYes A0.here hx rfl (pc0 := 3) (pc' := 10) rfl (hb hby d1_3) rfl ((if0 _ _).trans (tlt hm3_0).1) (by decide) (by decide) (XS.lloadN A0.here hx rfl (hb hby d1_10) rfl k))
    ·
      simp only [if_neg hm3_0] at k
      exact (XS.ifNo A0.here hx rfl (hb hby d1_3) rfl ((if0 _ _).trans (flt hm3_0).1) (XS.lloadN A0.here hx rfl (hb hby d1_6) rfl (XS.goto A0.here hx rfl (pc0 := 7) (pc' := 11) rfl (hb hby d1_7) (by decide) (by decide) k)))
  refine own_go mg1 ?_
  show own_Go _ _ _ _ (T0.setTop (mkF m 11 #[.val (.long q0), .second, .val (.long q1), .second] [(.long (if (lcmpW q0 q1) < (0 : Int32) then q1 else q0))]))
  refine own_retJ A0 hx hret hlk (by decide) (by decide) (hb hby d1_11) ?_
  exact ⟨rfl, rfl⟩
theorem ef_3 (m : MethodId) (r0 : Addr) : entryFrame m #[(.ref r0)] 1 = mkF m 0 #[.val (.ref r0)] [] := by first | (simp [entryFrame, mkF, argsToLocals, Value.category]; done) | rfl
theorem pn_3 : plainName "java/lang/Record" = true := by first | (simp [plainName, overriddenIn]; done) | decide +kernel
theorem d3_0 : decode jdk_30_method_1_code 0 = .ok (.aload_n 0, 1) := by decide +kernel
theorem d3_1 : decode jdk_30_method_1_code 1 = .ok (.invokespecial 1, 3) := by decide +kernel
theorem d3_4 : decode jdk_30_method_1_code 4 = .ok (.return_, 1) := by decide +kernel
set_option maxRecDepth 65536 in
set_option maxHeartbeats 40000000 in
theorem rm3 (l : Launch) (Z : State) (a0 : Array Value) (hw : ∀ d ∈ tables_1, d.before a0 Z = true) (r0 : Addr) (h0 : Heap) (n0 : Nat) :
    own_Met l Z n0 (⟨"java/lang/Record", "<init>", "()V"⟩ : MethodName) jdk_30_method_1_code 1 none ({ frames := 1, cells := 0, slots := 0, locals := 12 } : Room) #[(.ref r0)] h0 (fun v h => v = none ∧ h0 = h) := by
  refine own_met (plainFor_of_name pn_3) ?_
  intro p e s m below meth c T0 hx hby hml hown hnm hret hlk hZ A0
  rw [ef_3]
  show own_Go _ _ _ _ (T0.setTop (mkF m 0 #[.val (.ref r0)] []))
  refine own_go (fun t k => XS.aloadN A0.here hx rfl (hb hby d3_0) rfl rfl k) ?_
  show own_Go _ _ _ _ (T0.setTop (mkF m 1 #[.val (.ref r0)] [(.ref r0)]))
  refine own_initO A0 hx hZ hown (hw _ (List.mem_of_getElem? (i := 16) rfl)) (hw _ (List.mem_of_getElem? (i := 17) rfl)) (hw _ (List.mem_of_getElem? (i := 18) rfl)) rfl (by rw [hml]; rfl) rfl (hb hby d3_1) (by decide) 0 (by show 2 * 0 + _ ≤ _; exact Nat.le_of_eq rfl) (by decide) (fun T1 A2 => ?_)
  show own_Go _ _ _ _ (T1.setTop (mkF m 4 #[.val (.ref r0)] []))
  refine own_retV A2 hx hret hlk (by decide) (by decide) (hb hby d3_4) ?_
  exact ⟨rfl, rfl⟩
theorem ef_2 (m : MethodId) (r0 : Addr) (p1 : Int32) (p2 : Int32) (q3 : Int64) (d4 : UInt64) (d5 : UInt64) : entryFrame m #[(.ref r0), (.int p1), (.int p2), (.long q3), (.double d4), (.double d5)] 9 = mkF m 0 #[.val (.ref r0), .val (.int p1), .val (.int p2), .val (.long q3), .second, .val (.double d4), .second, .val (.double d5), .second] [] := by first | (simp [entryFrame, mkF, argsToLocals, Value.category]; done) | rfl
theorem pn_2 : plainName "com/example/gavelwright/gavelwright/model/Outcome$Holding" = true := by first | (simp [plainName, overriddenIn]; done) | decide +kernel
theorem d2_0 : decode prog_77_method_1_code 0 = .ok (.aload_n 0, 1) := by decide +kernel
theorem d2_1 : decode prog_77_method_1_code 1 = .ok (.invokespecial 1, 3) := by decide +kernel
theorem pd___V : parseMethodDescriptor "()V" = some ⟨[], none⟩ := by decide +kernel
theorem d2_4 : decode prog_77_method_1_code 4 = .ok (.iload_n 1, 1) := by decide +kernel
theorem d2_5 : decode prog_77_method_1_code 5 = .ok (.iconst 1, 1) := by decide +kernel
theorem d2_6 : decode prog_77_method_1_code 6 = .ok (.if_icmp .ge 17, 3) := by decide +kernel
theorem d2_23 : decode prog_77_method_1_code 23 = .ok (.iload_n 2, 1) := by decide +kernel
theorem d2_24 : decode prog_77_method_1_code 24 = .ok (.iload_n 1, 1) := by decide +kernel
theorem d2_25 : decode prog_77_method_1_code 25 = .ok (.if_icmp .ge 18, 3) := by decide +kernel
theorem d2_43 : decode prog_77_method_1_code 43 = .ok (.lload_n 3, 1) := by decide +kernel
theorem d2_44 : decode prog_77_method_1_code 44 = .ok (.lconst 1, 1) := by decide +kernel
theorem d2_45 : decode prog_77_method_1_code 45 = .ok (.lcmp, 1) := by decide +kernel
theorem d2_46 : decode prog_77_method_1_code 46 = .ok (.ifCond .ge 17, 3) := by decide +kernel
theorem d2_63 : decode prog_77_method_1_code 63 = .ok (.aload_n 0, 1) := by decide +kernel
theorem d2_64 : decode prog_77_method_1_code 64 = .ok (.iload_n 1, 1) := by decide +kernel
theorem d2_65 : decode prog_77_method_1_code 65 = .ok (.putfield 22, 3) := by decide +kernel
theorem d2_68 : decode prog_77_method_1_code 68 = .ok (.aload_n 0, 1) := by decide +kernel
theorem d2_69 : decode prog_77_method_1_code 69 = .ok (.iload_n 2, 1) := by decide +kernel
theorem d2_70 : decode prog_77_method_1_code 70 = .ok (.putfield 28, 3) := by decide +kernel
theorem d2_73 : decode prog_77_method_1_code 73 = .ok (.aload_n 0, 1) := by decide +kernel
theorem d2_74 : decode prog_77_method_1_code 74 = .ok (.lload_n 3, 1) := by decide +kernel
theorem d2_75 : decode prog_77_method_1_code 75 = .ok (.putfield 31, 3) := by decide +kernel
theorem d2_78 : decode prog_77_method_1_code 78 = .ok (.aload_n 0, 1) := by decide +kernel
theorem d2_79 : decode prog_77_method_1_code 79 = .ok (.dload 5, 2) := by decide +kernel
theorem d2_81 : decode prog_77_method_1_code 81 = .ok (.putfield 35, 3) := by decide +kernel
theorem d2_84 : decode prog_77_method_1_code 84 = .ok (.aload_n 0, 1) := by decide +kernel
theorem d2_85 : decode prog_77_method_1_code 85 = .ok (.dload 7, 2) := by decide +kernel
theorem d2_87 : decode prog_77_method_1_code 87 = .ok (.putfield 39, 3) := by decide +kernel
theorem d2_90 : decode prog_77_method_1_code 90 = .ok (.return_, 1) := by decide +kernel
set_option maxRecDepth 65536 in
set_option maxHeartbeats 40000000 in
theorem rm2 (l : Launch) (Z : State) (a0 : Array Value) (hw : ∀ d ∈ tables_1, d.before a0 Z = true) (r0 : Addr) (p1 : Int32) (p2 : Int32) (q3 : Int64) (d4 : UInt64) (d5 : UInt64) (h0 : Heap) (n0 : Nat) (E0 : Exa Z h0 r0 "com/example/gavelwright/gavelwright/model/Outcome$Holding") (g0 : n0 ≤ r0) (F0_first : Fld Z h0 r0 "com/example/gavelwright/gavelwright/model/Outcome$Holding" "first" "I" (.int (0 : Int32))) (F0_last : Fld Z h0 r0 "com/example/gavelwright/gavelwright/model/Outcome$Holding" "last" "I" (.int (0 : Int32))) (F0_units : Fld Z h0 r0 "com/example/gavelwright/gavelwright/model/Outcome$Holding" "units" "J" (.long (0 : Int64))) (F0_value : Fld Z h0 r0 "com/example/gavelwright/gavelwright/model/Outcome$Holding" "value" "D" (.double 0)) (F0_payment : Fld Z h0 r0 "com/example/gavelwright/gavelwright/model/Outcome$Holding" "payment" "D" (.double 0)) (H1 : ¬ p1 < (1 : Int32)) (H2 : ¬ p2 < p1) (H3 : ¬ (lcmpW q3 (1 : Int64)) < (0 : Int32)) :
    own_Met l Z n0 (⟨"com/example/gavelwright/gavelwright/model/Outcome$Holding", "<init>", "(IIJDD)V"⟩ : MethodName) prog_77_method_1_code 9 none ({ frames := 2, cells := 0, slots := 0, locals := 24 } : Room) #[(.ref r0), (.int p1), (.int p2), (.long q3), (.double d4), (.double d5)] h0 (fun v h => v = none ∧ Keep h0 h [r0] ∧ Fld Z h r0 "com/example/gavelwright/gavelwright/model/Outcome$Holding" "first" "I" (.int p1) ∧ Fld Z h r0 "com/example/gavelwright/gavelwright/model/Outcome$Holding" "last" "I" (.int p2)) := by
  refine own_met (plainFor_of_name pn_2) ?_
  intro p e s m below meth c T0 hx hby hml hown hnm hret hlk hZ A0
  rw [ef_2]
  show own_Go _ _ _ _ (T0.setTop (mkF m 0 #[.val (.ref r0), .val (.int p1), .val (.int p2), .val (.long q3), .second, .val (.double d4), .second, .val (.double d5), .second] []))
  refine own_go (fun t k => XS.aloadN A0.here hx rfl (hb hby d2_0) rfl rfl k) ?_
  show own_Go _ _ _ _ (T0.setTop (mkF m 1 #[.val (.ref r0), .val (.int p1), .val (.int p2), .val (.long q3), .second, .val (.double d4), .second, .val (.double d5), .second] [(.ref r0)]))
  refine own_callI A0 hx hZ (y := (⟨"java/lang/Record", "<init>", "()V"⟩ : MethodName)) rfl hown (hw _ (List.mem_of_getElem? (i := 11) rfl)) (hw _ (List.mem_of_getElem? (i := 12) rfl)) (hw _ (List.mem_of_getElem? (i := 14) rfl)) (hw _ (List.mem_of_getElem? (i := 15) rfl)) (by decide) (b := r0) (argsL := []) (rest := []) (rm3 l Z a0 hw r0 h0 n0 ) 0 (by decide) (by decide) rfl (by rw [hml]; rfl) (lenOf pd___V rfl) rfl (by show 2 * 0 + _ ≤ _; exact Nat.le_of_eq rfl) (hb hby d2_1) (by decide) (by decide) (fun v4 T1 h3 A2 hQ5 => ?_)
  obtain ⟨rfl, rfl⟩ := hQ5
  show own_Go _ _ _ _ (T1.setTop (mkF m 4 #[.val (.ref r0), .val (.int p1), .val (.int p2), .val (.long q3), .second, .val (.double d4), .second, .val (.double d5), .second] []))
  refine own_go (fun t k => XS.iloadN A2.here hx rfl (hb hby d2_4) rfl k) ?_
  show own_Go _ _ _ _ (T1.setTop (mkF m 5 #[.val (.ref r0), .val (.int p1), .val (.int p2), .val (.long q3), .second, .val (.double d4), .second, .val (.double d5), .second] [(.int p1)]))
  refine own_go (fun t k => XS.iconst A2.here hx rfl (hb hby d2_5) k) ?_
  show own_Go _ _ _ _ (T1.setTop (mkF m 6 #[.val (.ref r0), .val (.int p1), .val (.int p2), .val (.long q3), .second, .val (.double d4), .second, .val (.double d5), .second] [(.int (1 : Int32)), (.int p1)]))
  have hc6 : ¬ (p1 < (1 : Int32)) := H1
  refine own_go (fun t k => XS.icmpYes A2.here hx rfl (pc0 := 6) (pc' := 23) rfl (hb hby d2_6) rfl (flt hc6).2.1 (by decide) (by decide) k) ?_
  show own_Go _ _ _ _ (T1.setTop (mkF m 23 #[.val (.ref r0), .val (.int p1), .val (.int p2), .val (.long q3), .second, .val (.double d4), .second, .val (.double d5), .second] []))
  refine own_go (fun t k => XS.iloadN A2.here hx rfl (hb hby d2_23) rfl k) ?_
  show own_Go _ _ _ _ (T1.setTop (mkF m 24 #[.val (.ref r0), .val (.int p1), .val (.int p2), .val (.long q3), .second, .val (.double d4), .second, .val (.double d5), .second] [(.int p2)]))
  refine own_go (fun t k => XS.iloadN A2.here hx rfl (hb hby d2_24) rfl k) ?_
  show own_Go _ _ _ _ (T1.setTop (mkF m 25 #[.val (.ref r0), .val (.int p1), .val (.int p2), .val (.long q3), .second, .val (.double d4), .second, .val (.double d5), .second] [(.int p1), (.int p2)]))
  have hc7 : ¬ (p2 < p1) := H2
  refine own_go (fun t k => XS.icmpYes A2.here hx rfl (pc0 := 25) (pc' := 43) rfl (hb hby d2_25) rfl (flt hc7).2.1 (by decide) (by decide) k) ?_
  show own_Go _ _ _ _ (T1.setTop (mkF m 43 #[.val (.ref r0), .val (.int p1), .val (.int p2), .val (.long q3), .second, .val (.double d4), .second, .val (.double d5), .second] []))
  refine own_go (fun t k => XS.lloadN A2.here hx rfl (hb hby d2_43) rfl k) ?_
  show own_Go _ _ _ _ (T1.setTop (mkF m 44 #[.val (.ref r0), .val (.int p1), .val (.int p2), .val (.long q3), .second, .val (.double d4), .second, .val (.double d5), .second] [(.long q3)]))
  refine own_go (fun t k => XS.lconst A2.here hx rfl (hb hby d2_44) k) ?_
  show own_Go _ _ _ _ (T1.setTop (mkF m 45 #[.val (.ref r0), .val (.int p1), .val (.int p2), .val (.long q3), .second, .val (.double d4), .second, .val (.double d5), .second] [(.long (1 : Int64)), (.long q3)]))
  refine own_go (fun t k => XS.lcmp A2.here hx rfl (hb hby d2_45) rfl k) ?_
  show own_Go _ _ _ _ (T1.setTop (mkF m 46 #[.val (.ref r0), .val (.int p1), .val (.int p2), .val (.long q3), .second, .val (.double d4), .second, .val (.double d5), .second] [(.int (lcmpW q3 (1 : Int64)))]))
  have hc8 : ¬ ((lcmpW q3 (1 : Int64)) < (0 : Int32)) := H3
  refine own_go (fun t k => XS.ifYes A2.here hx rfl (pc0 := 46) (pc' := 63) rfl (hb hby d2_46) rfl ((if0 _ _).trans (flt hc8).2.1) (by decide) (by decide) k) ?_
  show own_Go _ _ _ _ (T1.setTop (mkF m 63 #[.val (.ref r0), .val (.int p1), .val (.int p2), .val (.long q3), .second, .val (.double d4), .second, .val (.double d5), .second] []))
  refine own_go (fun t k => XS.aloadN A2.here hx rfl (hb hby d2_63) rfl rfl k) ?_
  show own_Go _ _ _ _ (T1.setTop (mkF m 64 #[.val (.ref r0), .val (.int p1), .val (.int p2), .val (.long q3), .second, .val (.double d4), .second, .val (.double d5), .second] [(.ref r0)]))
  refine own_go (fun t k => XS.iloadN A2.here hx rfl (hb hby d2_64) rfl k) ?_
  show own_Go _ _ _ _ (T1.setTop (mkF m 65 #[.val (.ref r0), .val (.int p1), .val (.int p2), .val (.long q3), .second, .val (.double d4), .second, .val (.double d5), .second] [(.int p1), (.ref r0)]))
  refine own_putF A2 hx hZ hown (host := "") (Or.inl (hw _ (List.mem_of_getElem? (i := 19) rfl))) Via.refl F0_first E0 (Or.inr ⟨(hw _ (List.mem_of_getElem? (i := 20) rfl)), rfl, hnm⟩) (hw _ (List.mem_of_getElem? (i := 6) rfl)) (ty := .int) (by decide) rfl rfl g0 rfl rfl (hb hby d2_65) (fun T9 h11 A10 W12 => ?_)
  have E13 : Exa Z h11 r0 "com/example/gavelwright/gavelwright/model/Outcome$Holding" := E0.wr W12
  have K14 : Keep h0 h11 [r0] := (Keep.refl h0 [r0]).wr W12 (Or.inl (List.mem_of_getElem? (i := 0) rfl))
  have F15 : Fld Z h11 r0 "com/example/gavelwright/gavelwright/model/Outcome$Holding" "first" "I" (.int p1) := F0_first.same W12
  have F16 : Fld Z h11 r0 "com/example/gavelwright/gavelwright/model/Outcome$Holding" "last" "I" (.int (0 : Int32)) := F0_last.other W12 (Or.inr (slot_ne (Or.inr (hw _ (List.mem_of_getElem? (i := 22) rfl))) (Or.inr (hw _ (List.mem_of_getElem? (i := 20) rfl))) (by decide) (t := .int) (t' := .int) (by decide) (by decide)))
  have F17 : Fld Z h11 r0 "com/example/gavelwright/gavelwright/model/Outcome$Holding" "units" "J" (.long (0 : Int64)) := F0_units.other W12 (Or.inr (slot_ne (Or.inr (hw _ (List.mem_of_getElem? (i := 24) rfl))) (Or.inr (hw _ (List.mem_of_getElem? (i := 20) rfl))) (by decide) (t := .long) (t' := .int) (by decide) (by decide)))
  have F18 : Fld Z h11 r0 "com/example/gavelwright/gavelwright/model/Outcome$Holding" "value" "D" (.double 0) := F0_value.other W12 (Or.inr (slot_ne (Or.inr (hw _ (List.mem_of_getElem? (i := 26) rfl))) (Or.inr (hw _ (List.mem_of_getElem? (i := 20) rfl))) (by decide) (t := .double) (t' := .int) (by decide) (by decide)))
  have F19 : Fld Z h11 r0 "com/example/gavelwright/gavelwright/model/Outcome$Holding" "payment" "D" (.double 0) := F0_payment.other W12 (Or.inr (slot_ne (Or.inr (hw _ (List.mem_of_getElem? (i := 28) rfl))) (Or.inr (hw _ (List.mem_of_getElem? (i := 20) rfl))) (by decide) (t := .double) (t' := .int) (by decide) (by decide)))
  show own_Go _ _ _ _ (T9.setTop (mkF m 68 #[.val (.ref r0), .val (.int p1), .val (.int p2), .val (.long q3), .second, .val (.double d4), .second, .val (.double d5), .second] []))
  refine own_go (fun t k => XS.aloadN A10.here hx rfl (hb hby d2_68) rfl rfl k) ?_
  show own_Go _ _ _ _ (T9.setTop (mkF m 69 #[.val (.ref r0), .val (.int p1), .val (.int p2), .val (.long q3), .second, .val (.double d4), .second, .val (.double d5), .second] [(.ref r0)]))
  refine own_go (fun t k => XS.iloadN A10.here hx rfl (hb hby d2_69) rfl k) ?_
  show own_Go _ _ _ _ (T9.setTop (mkF m 70 #[.val (.ref r0), .val (.int p1), .val (.int p2), .val (.long q3), .second, .val (.double d4), .second, .val (.double d5), .second] [(.int p2), (.ref r0)]))
  refine own_putF A10 hx hZ hown (host := "") (Or.inl (hw _ (List.mem_of_getElem? (i := 21) rfl))) Via.refl F16 E13 (Or.inr ⟨(hw _ (List.mem_of_getElem? (i := 22) rfl)), rfl, hnm⟩) (hw _ (List.mem_of_getElem? (i := 6) rfl)) (ty := .int) (by decide) rfl rfl g0 rfl rfl (hb hby d2_70) (fun T20 h22 A21 W23 => ?_)
  have E24 : Exa Z h22 r0 "com/example/gavelwright/gavelwright/model/Outcome$Holding" := E13.wr W23
  have K25 : Keep h0 h22 [r0] := K14.wr W23 (Or.inl (List.mem_of_getElem? (i := 0) rfl))
  have F26 : Fld Z h22 r0 "com/example/gavelwright/gavelwright/model/Outcome$Holding" "first" "I" (.int p1) := F15.other W23 (Or.inr (slot_ne (Or.inr (hw _ (List.mem_of_getElem? (i := 20) rfl))) (Or.inr (hw _ (List.mem_of_getElem? (i := 22) rfl))) (by decide) (t := .int) (t' := .int) (by decide) (by decide)))
  have F27 : Fld Z h22 r0 "com/example/gavelwright/gavelwright/model/Outcome$Holding" "last" "I" (.int p2) := F16.same W23
  have F28 : Fld Z h22 r0 "com/example/gavelwright/gavelwright/model/Outcome$Holding" "units" "J" (.long (0 : Int64)) := F17.other W23 (Or.inr (slot_ne (Or.inr (hw _ (List.mem_of_getElem? (i := 24) rfl))) (Or.inr (hw _ (List.mem_of_getElem? (i := 22) rfl))) (by decide) (t := .long) (t' := .int) (by decide) (by decide)))
  have F29 : Fld Z h22 r0 "com/example/gavelwright/gavelwright/model/Outcome$Holding" "value" "D" (.double 0) := F18.other W23 (Or.inr (slot_ne (Or.inr (hw _ (List.mem_of_getElem? (i := 26) rfl))) (Or.inr (hw _ (List.mem_of_getElem? (i := 22) rfl))) (by decide) (t := .double) (t' := .int) (by decide) (by decide)))
  have F30 : Fld Z h22 r0 "com/example/gavelwright/gavelwright/model/Outcome$Holding" "payment" "D" (.double 0) := F19.other W23 (Or.inr (slot_ne (Or.inr (hw _ (List.mem_of_getElem? (i := 28) rfl))) (Or.inr (hw _ (List.mem_of_getElem? (i := 22) rfl))) (by decide) (t := .double) (t' := .int) (by decide) (by decide)))
  show own_Go _ _ _ _ (T20.setTop (mkF m 73 #[.val (.ref r0), .val (.int p1), .val (.int p2), .val (.long q3), .second, .val (.double d4), .second, .val (.double d5), .second] []))
  refine own_go (fun t k => XS.aloadN A21.here hx rfl (hb hby d2_73) rfl rfl k) ?_
  show own_Go _ _ _ _ (T20.setTop (mkF m 74 #[.val (.ref r0), .val (.int p1), .val (.int p2), .val (.long q3), .second, .val (.double d4), .second, .val (.double d5), .second] [(.ref r0)]))
  refine own_go (fun t k => XS.lloadN A21.here hx rfl (hb hby d2_74) rfl k) ?_
  show own_Go _ _ _ _ (T20.setTop (mkF m 75 #[.val (.ref r0), .val (.int p1), .val (.int p2), .val (.long q3), .second, .val (.double d4), .second, .val (.double d5), .second] [(.long q3), (.ref r0)]))
  refine own_putF A21 hx hZ hown (host := "") (Or.inl (hw _ (List.mem_of_getElem? (i := 23) rfl))) Via.refl F28 E24 (Or.inr ⟨(hw _ (List.mem_of_getElem? (i := 24) rfl)), rfl, hnm⟩) (hw _ (List.mem_of_getElem? (i := 6) rfl)) (ty := .long) (by decide) rfl rfl g0 rfl rfl (hb hby d2_75) (fun T31 h33 A32 W34 => ?_)
  have E35 : Exa Z h33 r0 "com/example/gavelwright/gavelwright/model/Outcome$Holding" := E24.wr W34
  have K36 : Keep h0 h33 [r0] := K25.wr W34 (Or.inl (List.mem_of_getElem? (i := 0) rfl))
  have F37 : Fld Z h33 r0 "com/example/gavelwright/gavelwright/model/Outcome$Holding" "first" "I" (.int p1) := F26.other W34 (Or.inr (slot_ne (Or.inr (hw _ (List.mem_of_getElem? (i := 20) rfl))) (Or.inr (hw _ (List.mem_of_getElem? (i := 24) rfl))) (by decide) (t := .int) (t' := .long) (by decide) (by decide)))
  have F38 : Fld Z h33 r0 "com/example/gavelwright/gavelwright/model/Outcome$Holding" "last" "I" (.int p2) := F27.other W34 (Or.inr (slot_ne (Or.inr (hw _ (List.mem_of_getElem? (i := 22) rfl))) (Or.inr (hw _ (List.mem_of_getElem? (i := 24) rfl))) (by decide) (t := .int) (t' := .long) (by decide) (by decide)))
  have F39 : Fld Z h33 r0 "com/example/gavelwright/gavelwright/model/Outcome$Holding" "units" "J" (.long q3) := F28.same W34
  have F40 : Fld Z h33 r0 "com/example/gavelwright/gavelwright/model/Outcome$Holding" "value" "D" (.double 0) := F29.other W34 (Or.inr (slot_ne (Or.inr (hw _ (List.mem_of_getElem? (i := 26) rfl))) (Or.inr (hw _ (List.mem_of_getElem? (i := 24) rfl))) (by decide) (t := .double) (t' := .long) (by decide) (by decide)))
  have F41 : Fld Z h33 r0 "com/example/gavelwright/gavelwright/model/Outcome$Holding" "payment" "D" (.double 0) := F30.other W34 (Or.inr (slot_ne (Or.inr (hw _ (List.mem_of_getElem? (i := 28) rfl))) (Or.inr (hw _ (List.mem_of_getElem? (i := 24) rfl))) (by decide) (t := .double) (t' := .long) (by decide) (by decide)))
  show own_Go _ _ _ _ (T31.setTop (mkF m 78 #[.val (.ref r0), .val (.int p1), .val (.int p2), .val (.long q3), .second, .val (.double d4), .second, .val (.double d5), .second] []))
  refine own_go (fun t k => XS.aloadN A32.here hx rfl (hb hby d2_78) rfl rfl k) ?_
  show own_Go _ _ _ _ (T31.setTop (mkF m 79 #[.val (.ref r0), .val (.int p1), .val (.int p2), .val (.long q3), .second, .val (.double d4), .second, .val (.double d5), .second] [(.ref r0)]))
  refine own_go (fun t k => XS.dload A32.here hx rfl (hb hby d2_79) rfl k) ?_
  show own_Go _ _ _ _ (T31.setTop (mkF m 81 #[.val (.ref r0), .val (.int p1), .val (.int p2), .val (.long q3), .second, .val (.double d4), .second, .val (.double d5), .second] [(.double d4), (.ref r0)]))
  refine own_putF A32 hx hZ hown (host := "") (Or.inl (hw _ (List.mem_of_getElem? (i := 25) rfl))) Via.refl F40 E35 (Or.inr ⟨(hw _ (List.mem_of_getElem? (i := 26) rfl)), rfl, hnm⟩) (hw _ (List.mem_of_getElem? (i := 6) rfl)) (ty := .double) (by decide) rfl rfl g0 rfl rfl (hb hby d2_81) (fun T42 h44 A43 W45 => ?_)
  have E46 : Exa Z h44 r0 "com/example/gavelwright/gavelwright/model/Outcome$Holding" := E35.wr W45
  have K47 : Keep h0 h44 [r0] := K36.wr W45 (Or.inl (List.mem_of_getElem? (i := 0) rfl))
  have F48 : Fld Z h44 r0 "com/example/gavelwright/gavelwright/model/Outcome$Holding" "first" "I" (.int p1) := F37.other W45 (Or.inr (slot_ne (Or.inr (hw _ (List.mem_of_getElem? (i := 20) rfl))) (Or.inr (hw _ (List.mem_of_getElem? (i := 26) rfl))) (by decide) (t := .int) (t' := .double) (by decide) (by decide)))
  have F49 : Fld Z h44 r0 "com/example/gavelwright/gavelwright/model/Outcome$Holding" "last" "I" (.int p2) := F38.other W45 (Or.inr (slot_ne (Or.inr (hw _ (List.mem_of_getElem? (i := 22) rfl))) (Or.inr (hw _ (List.mem_of_getElem? (i := 26) rfl))) (by decide) (t := .int) (t' := .double) (by decide) (by decide)))
  have F50 : Fld Z h44 r0 "com/example/gavelwright/gavelwright/model/Outcome$Holding" "units" "J" (.long q3) := F39.other W45 (Or.inr (slot_ne (Or.inr (hw _ (List.mem_of_getElem? (i := 24) rfl))) (Or.inr (hw _ (List.mem_of_getElem? (i := 26) rfl))) (by decide) (t := .long) (t' := .double) (by decide) (by decide)))
  have F51 : Fld Z h44 r0 "com/example/gavelwright/gavelwright/model/Outcome$Holding" "value" "D" (.double d4) := F40.same W45
  have F52 : Fld Z h44 r0 "com/example/gavelwright/gavelwright/model/Outcome$Holding" "payment" "D" (.double 0) := F41.other W45 (Or.inr (slot_ne (Or.inr (hw _ (List.mem_of_getElem? (i := 28) rfl))) (Or.inr (hw _ (List.mem_of_getElem? (i := 26) rfl))) (by decide) (t := .double) (t' := .double) (by decide) (by decide)))
  show own_Go _ _ _ _ (T42.setTop (mkF m 84 #[.val (.ref r0), .val (.int p1), .val (.int p2), .val (.long q3), .second, .val (.double d4), .second, .val (.double d5), .second] []))
  refine own_go (fun t k => XS.aloadN A43.here hx rfl (hb hby d2_84) rfl rfl k) ?_
  show own_Go _ _ _ _ (T42.setTop (mkF m 85 #[.val (.ref r0), .val (.int p1), .val (.int p2), .val (.long q3), .second, .val (.double d4), .second, .val (.double d5), .second] [(.ref r0)]))
  refine own_go (fun t k => XS.dload A43.here hx rfl (hb hby d2_85) rfl k) ?_
  show own_Go _ _ _ _ (T42.setTop (mkF m 87 #[.val (.ref r0), .val (.int p1), .val (.int p2), .val (.long q3), .second, .val (.double d4), .second, .val (.double d5), .second] [(.double d5), (.ref r0)]))
  refine own_putF A43 hx hZ hown (host := "") (Or.inl (hw _ (List.mem_of_getElem? (i := 27) rfl))) Via.refl F52 E46 (Or.inr ⟨(hw _ (List.mem_of_getElem? (i := 28) rfl)), rfl, hnm⟩) (hw _ (List.mem_of_getElem? (i := 6) rfl)) (ty := .double) (by decide) rfl rfl g0 rfl rfl (hb hby d2_87) (fun T53 h55 A54 W56 => ?_)
  have E57 : Exa Z h55 r0 "com/example/gavelwright/gavelwright/model/Outcome$Holding" := E46.wr W56
  have K58 : Keep h0 h55 [r0] := K47.wr W56 (Or.inl (List.mem_of_getElem? (i := 0) rfl))
  have F59 : Fld Z h55 r0 "com/example/gavelwright/gavelwright/model/Outcome$Holding" "first" "I" (.int p1) := F48.other W56 (Or.inr (slot_ne (Or.inr (hw _ (List.mem_of_getElem? (i := 20) rfl))) (Or.inr (hw _ (List.mem_of_getElem? (i := 28) rfl))) (by decide) (t := .int) (t' := .double) (by decide) (by decide)))
  have F60 : Fld Z h55 r0 "com/example/gavelwright/gavelwright/model/Outcome$Holding" "last" "I" (.int p2) := F49.other W56 (Or.inr (slot_ne (Or.inr (hw _ (List.mem_of_getElem? (i := 22) rfl))) (Or.inr (hw _ (List.mem_of_getElem? (i := 28) rfl))) (by decide) (t := .int) (t' := .double) (by decide) (by decide)))
  have F61 : Fld Z h55 r0 "com/example/gavelwright/gavelwright/model/Outcome$Holding" "units" "J" (.long q3) := F50.other W56 (Or.inr (slot_ne (Or.inr (hw _ (List.mem_of_getElem? (i := 24) rfl))) (Or.inr (hw _ (List.mem_of_getElem? (i := 28) rfl))) (by decide) (t := .long) (t' := .double) (by decide) (by decide)))
  have F62 : Fld Z h55 r0 "com/example/gavelwright/gavelwright/model/Outcome$Holding" "value" "D" (.double d4) := F51.other W56 (Or.inr (slot_ne (Or.inr (hw _ (List.mem_of_getElem? (i := 26) rfl))) (Or.inr (hw _ (List.mem_of_getElem? (i := 28) rfl))) (by decide) (t := .double) (t' := .double) (by decide) (by decide)))
  have F63 : Fld Z h55 r0 "com/example/gavelwright/gavelwright/model/Outcome$Holding" "payment" "D" (.double d5) := F52.same W56
  show own_Go _ _ _ _ (T53.setTop (mkF m 90 #[.val (.ref r0), .val (.int p1), .val (.int p2), .val (.long q3), .second, .val (.double d4), .second, .val (.double d5), .second] []))
  refine own_retV A54 hx hret hlk (by decide) (by decide) (hb hby d2_90) ?_
  exact ⟨rfl, K58, F59, F60⟩
theorem ef_5 (m : MethodId) (r0 : Addr) : entryFrame m #[(.ref r0)] 1 = mkF m 0 #[.val (.ref r0)] [] := by first | (simp [entryFrame, mkF, argsToLocals, Value.category]; done) | rfl
theorem d5_0 : decode prog_77_method_2_code 0 = .ok (.aload_n 0, 1) := by decide +kernel
theorem d5_1 : decode prog_77_method_2_code 1 = .ok (.getfield 28, 3) := by decide +kernel
theorem d5_4 : decode prog_77_method_2_code 4 = .ok (.i2l, 1) := by decide +kernel
theorem d5_5 : decode prog_77_method_2_code 5 = .ok (.aload_n 0, 1) := by decide +kernel
theorem d5_6 : decode prog_77_method_2_code 6 = .ok (.getfield 22, 3) := by decide +kernel
theorem d5_9 : decode prog_77_method_2_code 9 = .ok (.i2l, 1) := by decide +kernel
theorem d5_10 : decode prog_77_method_2_code 10 = .ok (.lsub, 1) := by decide +kernel
theorem d5_11 : decode prog_77_method_2_code 11 = .ok (.lconst 1, 1) := by decide +kernel
theorem d5_12 : decode prog_77_method_2_code 12 = .ok (.ladd, 1) := by decide +kernel
theorem d5_13 : decode prog_77_method_2_code 13 = .ok (.lreturn, 1) := by decide +kernel
def f5 (w_last_r0 : Int32) (w_first_r0 : Int32) : Int64 := (((w_last_r0.toInt64) - (w_first_r0.toInt64)) + (1 : Int64))
set_option maxRecDepth 65536 in
set_option maxHeartbeats 40000000 in
theorem rm5 (l : Launch) (Z : State) (a0 : Array Value) (hw : ∀ d ∈ tables_1, d.before a0 Z = true) (r0 : Addr) (w_last_r0 : Int32) (w_first_r0 : Int32) (h0 : Heap) (n0 : Nat) (F_last_r0 : Fld Z h0 r0 "com/example/gavelwright/gavelwright/model/Outcome$Holding" "last" "I" (.int w_last_r0)) (F_first_r0 : Fld Z h0 r0 "com/example/gavelwright/gavelwright/model/Outcome$Holding" "first" "I" (.int w_first_r0)) :
    own_Met l Z n0 (⟨"com/example/gavelwright/gavelwright/model/Outcome$Holding", "slots", "()J"⟩ : MethodName) prog_77_method_2_code 1 (some .long) ({ frames := 0, cells := 0, slots := 0, locals := 0 } : Room) #[(.ref r0)] h0 (fun v h => v = some (.long (f5 w_last_r0 w_first_r0)) ∧ h0 = h) := by
  refine own_met (plainFor_of_name pn_2) ?_
  intro p e s m below meth c T0 hx hby hml hown hnm hret hlk hZ A0
  rw [ef_5]
  show own_Go _ _ _ _ (T0.setTop (mkF m 0 #[.val (.ref r0)] []))
  refine own_go (fun t k => XS.aloadN A0.here hx rfl (hb hby d5_0) rfl rfl k) ?_
  show own_Go _ _ _ _ (T0.setTop (mkF m 1 #[.val (.ref r0)] [(.ref r0)]))
  refine own_getF A0 hx hZ hown (host := "") (Or.inl (hw _ (List.mem_of_getElem? (i := 21) rfl))) Via.refl F_last_r0 rfl rfl (hb hby d5_1) (fun T1 A2 => ?_)
  show own_Go _ _ _ _ (T1.setTop (mkF m 4 #[.val (.ref r0)] [(.int w_last_r0)]))
  refine own_go (fun t k => XS.i2l A2.here hx rfl (hb hby d5_4) rfl k) ?_
  show own_Go _ _ _ _ (T1.setTop (mkF m 5 #[.val (.ref r0)] [(.long (w_last_r0.toInt64))]))
  refine own_go (fun t k => XS.aloadN A2.here hx rfl (hb hby d5_5) rfl rfl k) ?_
  show own_Go _ _ _ _ (T1.setTop (mkF m 6 #[.val (.ref r0)] [(.ref r0), (.long (w_last_r0.toInt64))]))
  refine own_getF A2 hx hZ hown (host := "") (Or.inl (hw _ (List.mem_of_getElem? (i := 19) rfl))) Via.refl F_first_r0 rfl rfl (hb hby d5_6) (fun T3 A4 => ?_)
  show own_Go _ _ _ _ (T3.setTop (mkF m 9 #[.val (.ref r0)] [(.int w_first_r0), (.long (w_last_r0.toInt64))]))
  refine own_go (fun t k => XS.i2l A4.here hx rfl (hb hby d5_9) rfl k) ?_
  show own_Go _ _ _ _ (T3.setTop (mkF m 10 #[.val (.ref r0)] [(.long (w_first_r0.toInt64)), (.long (w_last_r0.toInt64))]))
  refine own_go (fun t k => XS.lsub A4.here hx rfl (hb hby d5_10) rfl k) ?_
  show own_Go _ _ _ _ (T3.setTop (mkF m 11 #[.val (.ref r0)] [(.long ((w_last_r0.toInt64) - (w_first_r0.toInt64)))]))
  refine own_go (fun t k => XS.lconst A4.here hx rfl (hb hby d5_11) k) ?_
  show own_Go _ _ _ _ (T3.setTop (mkF m 12 #[.val (.ref r0)] [(.long (1 : Int64)), (.long ((w_last_r0.toInt64) - (w_first_r0.toInt64)))]))
  refine own_go (fun t k => XS.ladd A4.here hx rfl (hb hby d5_12) rfl k) ?_
  show own_Go _ _ _ _ (T3.setTop (mkF m 13 #[.val (.ref r0)] [(.long (((w_last_r0.toInt64) - (w_first_r0.toInt64)) + (1 : Int64)))]))
  refine own_retJ A4 hx hret hlk (by decide) (by decide) (hb hby d5_13) ?_
  exact ⟨rfl, rfl⟩
theorem own_max (q : Int64) : 1 ≤ (f1 (1 : Int64) q).toInt := by
  unfold f1
  have e1 := own_J1
  split
  · rename_i h
    rw [lw_lt, Int64.lt_iff_toInt_lt] at h
    omega
  · omega
theorem own_slots (a b : Int32) : (f5 a b).toInt = a.toInt - b.toInt + 1 := by
  unfold f5
  have h1 := c_lsub a.toInt64 b.toInt64
  have h2 := c_ladd (a.toInt64 - b.toInt64) 1
  have h3 := rng64 (a.toInt64 - b.toInt64)
  have h4 := rng64 ((a.toInt64 - b.toInt64) + 1)
  have h5 := rng32 a
  have h6 := rng32 b
  rw [c_i2l, c_i2l] at h1
  rw [own_J1] at h2
  omega
theorem ef_0 (m : MethodId) (p0 : Int32) (p1 : Int32) (p2 : Int32) (q3 : Int64) (p4 : Int32) : entryFrame m #[(.int p0), (.int p1), (.int p2), (.long q3), (.int p4)] maxLocals = mkF m 0 #[.val (.int p0), .val (.int p1), .val (.int p2), .val (.long q3), .second, .val (.int p4), .unset, .unset, .unset, .unset, .unset, .unset, .unset, .unset, .unset, .unset, .unset, .unset, .unset, .unset, .unset, .unset] [] := by first | (simp [entryFrame, mkF, argsToLocals, Value.category, maxLocals]; done) | rfl
theorem pn_0 : plainName "com/example/gavelwright/gavelwright/model/HoldingSlotsPinLaw" = true := by first | (simp [plainName, overriddenIn]; done) | decide +kernel
theorem pd__JJ_J : parseMethodDescriptor "(JJ)J" = some ⟨[.long, .long], some .long⟩ := by decide +kernel
theorem pd__IIJDD_V : parseMethodDescriptor "(IIJDD)V" = some ⟨[.int, .int, .long, .double, .double], none⟩ := by decide +kernel
theorem pd___J : parseMethodDescriptor "()J" = some ⟨[], some .long⟩ := by decide +kernel
set_option maxRecDepth 65536 in
set_option maxHeartbeats 40000000 in
theorem rm0 (l : Launch) (Z : State) (a0 : Array Value) (hw : ∀ d ∈ tables_1, d.before a0 Z = true) (p0 : Int32) (p1 : Int32) (p2 : Int32) (q3 : Int64) (p4 : Int32) (h0 : Heap) (n0 : Nat) (O0 : Old Z n0 h0) (Z0 : n0 ≤ h0.size) :
    own_Met l Z n0 x code maxLocals ret room_1 #[(.int p0), (.int p1), (.int p2), (.long q3), (.int p4)] h0 (fun v h => v = some (.int 1) ∧ True) := by
  refine own_met (plainFor_of_name pn_0) ?_
  intro p e s m below meth c T0 hx hby hml hown hnm hret hlk hZ A0
  have hret : meth.sig.returnType = some .boolean := hret
  rw [ef_0]
  show own_Go _ _ _ _ (T0.setTop (mkF m 0 #[.val (.int p0), .val (.int p1), .val (.int p2), .val (.long q3), .second, .val (.int p4), .unset, .unset, .unset, .unset, .unset, .unset, .unset, .unset, .unset, .unset, .unset, .unset, .unset, .unset, .unset, .unset] []))
  refine own_go (fun t k => XS.iconst A0.here hx rfl (hb hby at_0) k) ?_
  show own_Go _ _ _ _ (T0.setTop (mkF m 1 #[.val (.int p0), .val (.int p1), .val (.int p2), .val (.long q3), .second, .val (.int p4), .unset, .unset, .unset, .unset, .unset, .unset, .unset, .unset, .unset, .unset, .unset, .unset, .unset, .unset, .unset, .unset] [(.int (1 : Int32))]))
  refine own_go (fun t k => XS.iloadN A0.here hx rfl (hb hby at_1) rfl k) ?_
  show own_Go _ _ _ _ (T0.setTop (mkF m 2 #[.val (.int p0), .val (.int p1), .val (.int p2), .val (.long q3), .second, .val (.int p4), .unset, .unset, .unset, .unset, .unset, .unset, .unset, .unset, .unset, .unset, .unset, .unset, .unset, .unset, .unset, .unset] [(.int p0), (.int (1 : Int32))]))
  refine own_ldcI A0 hx hZ hown (hw _ (List.mem_of_getElem? (i := 0) rfl)) rfl (hb hby at_2) ?_
  show own_Go _ _ _ _ (T0.setTop (mkF m 4 #[.val (.int p0), .val (.int p1), .val (.int p2), .val (.long q3), .second, .val (.int p4), .unset, .unset, .unset, .unset, .unset, .unset, .unset, .unset, .unset, .unset, .unset, .unset, .unset, .unset, .unset, .unset] [(.int (2147483647 : Int32)), (.int p0), (.int (1 : Int32))]))
  refine own_go (fun t k => XS.iand A0.here hx rfl (hb hby at_4) rfl k) ?_
  show own_Go _ _ _ _ (T0.setTop (mkF m 5 #[.val (.int p0), .val (.int p1), .val (.int p2), .val (.long q3), .second, .val (.int p4), .unset, .unset, .unset, .unset, .unset, .unset, .unset, .unset, .unset, .unset, .unset, .unset, .unset, .unset, .unset, .unset] [(.int (p0 &&& (2147483647 : Int32))), (.int (1 : Int32))]))
  refine own_ldcI A0 hx hZ hown (hw _ (List.mem_of_getElem? (i := 0) rfl)) rfl (hb hby at_5) ?_
  show own_Go _ _ _ _ (T0.setTop (mkF m 7 #[.val (.int p0), .val (.int p1), .val (.int p2), .val (.long q3), .second, .val (.int p4), .unset, .unset, .unset, .unset, .unset, .unset, .unset, .unset, .unset, .unset, .unset, .unset, .unset, .unset, .unset, .unset] [(.int (2147483647 : Int32)), (.int (p0 &&& (2147483647 : Int32))), (.int (1 : Int32))]))
  refine own_go (fun t k => own_irem A0.here hx rfl (hb hby at_7) rfl (by decide) k) ?_
  show own_Go _ _ _ _ (T0.setTop (mkF m 8 #[.val (.int p0), .val (.int p1), .val (.int p2), .val (.long q3), .second, .val (.int p4), .unset, .unset, .unset, .unset, .unset, .unset, .unset, .unset, .unset, .unset, .unset, .unset, .unset, .unset, .unset, .unset] [(.int ((p0 &&& (2147483647 : Int32)) % (2147483647 : Int32))), (.int (1 : Int32))]))
  refine own_go (fun t k => XS.iadd A0.here hx rfl (hb hby at_8) rfl k) ?_
  show own_Go _ _ _ _ (T0.setTop (mkF m 9 #[.val (.int p0), .val (.int p1), .val (.int p2), .val (.long q3), .second, .val (.int p4), .unset, .unset, .unset, .unset, .unset, .unset, .unset, .unset, .unset, .unset, .unset, .unset, .unset, .unset, .unset, .unset] [(.int ((1 : Int32) + ((p0 &&& (2147483647 : Int32)) % (2147483647 : Int32))))]))
  have hf := own_first p0
  generalize e_vf : ((1 : Int32) + ((p0 &&& (2147483647 : Int32)) % (2147483647 : Int32))) = vf at hf ⊢
  have hr_vf := rng32 vf
  show own_Go _ _ _ _ (T0.setTop (mkF m 9 #[.val (.int p0), .val (.int p1), .val (.int p2), .val (.long q3), .second, .val (.int p4), .unset, .unset, .unset, .unset, .unset, .unset, .unset, .unset, .unset, .unset, .unset, .unset, .unset, .unset, .unset, .unset] [(.int vf)]))
  refine own_go (fun t k => XS.istore A0.here hx rfl (hb hby at_9) rfl (l' := #[.val (.int p0), .val (.int p1), .val (.int p2), .val (.long q3), .second, .val (.int p4), .val (.int vf), .unset, .unset, .unset, .unset, .unset, .unset, .unset, .unset, .unset, .unset, .unset, .unset, .unset, .unset, .unset]) rfl k) ?_
  show own_Go _ _ _ _ (T0.setTop (mkF m 11 #[.val (.int p0), .val (.int p1), .val (.int p2), .val (.long q3), .second, .val (.int p4), .val (.int vf), .unset, .unset, .unset, .unset, .unset, .unset, .unset, .unset, .unset, .unset, .unset, .unset, .unset, .unset, .unset] []))
  refine own_ldcI A0 hx hZ hown (hw _ (List.mem_of_getElem? (i := 0) rfl)) rfl (hb hby at_11) ?_
  show own_Go _ _ _ _ (T0.setTop (mkF m 13 #[.val (.int p0), .val (.int p1), .val (.int p2), .val (.long q3), .second, .val (.int p4), .val (.int vf), .unset, .unset, .unset, .unset, .unset, .unset, .unset, .unset, .unset, .unset, .unset, .unset, .unset, .unset, .unset] [(.int (2147483647 : Int32))]))
  refine own_go (fun t k => XS.iload A0.here hx rfl (hb hby at_13) rfl k) ?_
  show own_Go _ _ _ _ (T0.setTop (mkF m 15 #[.val (.int p0), .val (.int p1), .val (.int p2), .val (.long q3), .second, .val (.int p4), .val (.int vf), .unset, .unset, .unset, .unset, .unset, .unset, .unset, .unset, .unset, .unset, .unset, .unset, .unset, .unset, .unset] [(.int vf), (.int (2147483647 : Int32))]))
  refine own_go (fun t k => XS.isub A0.here hx rfl (hb hby at_15) rfl k) ?_
  show own_Go _ _ _ _ (T0.setTop (mkF m 16 #[.val (.int p0), .val (.int p1), .val (.int p2), .val (.long q3), .second, .val (.int p4), .val (.int vf), .unset, .unset, .unset, .unset, .unset, .unset, .unset, .unset, .unset, .unset, .unset, .unset, .unset, .unset, .unset] [(.int ((2147483647 : Int32) - vf))]))
  have hs := own_span vf hf
  generalize e_vs : ((2147483647 : Int32) - vf) = vs at hs ⊢
  have hr_vs := rng32 vs
  show own_Go _ _ _ _ (T0.setTop (mkF m 16 #[.val (.int p0), .val (.int p1), .val (.int p2), .val (.long q3), .second, .val (.int p4), .val (.int vf), .unset, .unset, .unset, .unset, .unset, .unset, .unset, .unset, .unset, .unset, .unset, .unset, .unset, .unset, .unset] [(.int vs)]))
  refine own_go (fun t k => XS.istore A0.here hx rfl (hb hby at_16) rfl (l' := #[.val (.int p0), .val (.int p1), .val (.int p2), .val (.long q3), .second, .val (.int p4), .val (.int vf), .val (.int vs), .unset, .unset, .unset, .unset, .unset, .unset, .unset, .unset, .unset, .unset, .unset, .unset, .unset, .unset]) rfl k) ?_
  show own_Go _ _ _ _ (T0.setTop (mkF m 18 #[.val (.int p0), .val (.int p1), .val (.int p2), .val (.long q3), .second, .val (.int p4), .val (.int vf), .val (.int vs), .unset, .unset, .unset, .unset, .unset, .unset, .unset, .unset, .unset, .unset, .unset, .unset, .unset, .unset] []))
  refine own_go (fun t k => XS.iload A0.here hx rfl (hb hby at_18) rfl k) ?_
  show own_Go _ _ _ _ (T0.setTop (mkF m 20 #[.val (.int p0), .val (.int p1), .val (.int p2), .val (.long q3), .second, .val (.int p4), .val (.int vf), .val (.int vs), .unset, .unset, .unset, .unset, .unset, .unset, .unset, .unset, .unset, .unset, .unset, .unset, .unset, .unset] [(.int vf)]))
  refine own_go (fun t k => XS.iloadN A0.here hx rfl (hb hby at_20) rfl k) ?_
  show own_Go _ _ _ _ (T0.setTop (mkF m 21 #[.val (.int p0), .val (.int p1), .val (.int p2), .val (.long q3), .second, .val (.int p4), .val (.int vf), .val (.int vs), .unset, .unset, .unset, .unset, .unset, .unset, .unset, .unset, .unset, .unset, .unset, .unset, .unset, .unset] [(.int p1), (.int vf)]))
  refine own_ldcI A0 hx hZ hown (hw _ (List.mem_of_getElem? (i := 0) rfl)) rfl (hb hby at_21) ?_
  show own_Go _ _ _ _ (T0.setTop (mkF m 23 #[.val (.int p0), .val (.int p1), .val (.int p2), .val (.long q3), .second, .val (.int p4), .val (.int vf), .val (.int vs), .unset, .unset, .unset, .unset, .unset, .unset, .unset, .unset, .unset, .unset, .unset, .unset, .unset, .unset] [(.int (2147483647 : Int32)), (.int p1), (.int vf)]))
  refine own_go (fun t k => XS.iand A0.here hx rfl (hb hby at_23) rfl k) ?_
  show own_Go _ _ _ _ (T0.setTop (mkF m 24 #[.val (.int p0), .val (.int p1), .val (.int p2), .val (.long q3), .second, .val (.int p4), .val (.int vf), .val (.int vs), .unset, .unset, .unset, .unset, .unset, .unset, .unset, .unset, .unset, .unset, .unset, .unset, .unset, .unset] [(.int (p1 &&& (2147483647 : Int32))), (.int vf)]))
  refine own_go (fun t k => XS.iload A0.here hx rfl (hb hby at_24) rfl k) ?_
  show own_Go _ _ _ _ (T0.setTop (mkF m 26 #[.val (.int p0), .val (.int p1), .val (.int p2), .val (.long q3), .second, .val (.int p4), .val (.int vf), .val (.int vs), .unset, .unset, .unset, .unset, .unset, .unset, .unset, .unset, .unset, .unset, .unset, .unset, .unset, .unset] [(.int vs), (.int (p1 &&& (2147483647 : Int32))), (.int vf)]))
  refine own_go (fun t k => XS.iconst A0.here hx rfl (hb hby at_26) k) ?_
  show own_Go _ _ _ _ (T0.setTop (mkF m 27 #[.val (.int p0), .val (.int p1), .val (.int p2), .val (.long q3), .second, .val (.int p4), .val (.int vf), .val (.int vs), .unset, .unset, .unset, .unset, .unset, .unset, .unset, .unset, .unset, .unset, .unset, .unset, .unset, .unset] [(.int (1 : Int32)), (.int vs), (.int (p1 &&& (2147483647 : Int32))), (.int vf)]))
  refine own_go (fun t k => XS.iadd A0.here hx rfl (hb hby at_27) rfl k) ?_
  show own_Go _ _ _ _ (T0.setTop (mkF m 28 #[.val (.int p0), .val (.int p1), .val (.int p2), .val (.long q3), .second, .val (.int p4), .val (.int vf), .val (.int vs), .unset, .unset, .unset, .unset, .unset, .unset, .unset, .unset, .unset, .unset, .unset, .unset, .unset, .unset] [(.int (vs + (1 : Int32))), (.int (p1 &&& (2147483647 : Int32))), (.int vf)]))
  have hk := own_inc vs (by omega)
  generalize e_vk : (vs + (1 : Int32)) = vk at hk ⊢
  have hr_vk := rng32 vk
  show own_Go _ _ _ _ (T0.setTop (mkF m 28 #[.val (.int p0), .val (.int p1), .val (.int p2), .val (.long q3), .second, .val (.int p4), .val (.int vf), .val (.int vs), .unset, .unset, .unset, .unset, .unset, .unset, .unset, .unset, .unset, .unset, .unset, .unset, .unset, .unset] [(.int vk), (.int (p1 &&& (2147483647 : Int32))), (.int vf)]))
  refine own_go (fun t k => own_irem A0.here hx rfl (hb hby at_28) rfl (own_ne0 (by omega)) k) ?_
  show own_Go _ _ _ _ (T0.setTop (mkF m 29 #[.val (.int p0), .val (.int p1), .val (.int p2), .val (.long q3), .second, .val (.int p4), .val (.int vf), .val (.int vs), .unset, .unset, .unset, .unset, .unset, .unset, .unset, .unset, .unset, .unset, .unset, .unset, .unset, .unset] [(.int ((p1 &&& (2147483647 : Int32)) % vk)), (.int vf)]))
  refine own_go (fun t k => XS.iadd A0.here hx rfl (hb hby at_29) rfl k) ?_
  show own_Go _ _ _ _ (T0.setTop (mkF m 30 #[.val (.int p0), .val (.int p1), .val (.int p2), .val (.long q3), .second, .val (.int p4), .val (.int vf), .val (.int vs), .unset, .unset, .unset, .unset, .unset, .unset, .unset, .unset, .unset, .unset, .unset, .unset, .unset, .unset] [(.int (vf + ((p1 &&& (2147483647 : Int32)) % vk)))]))
  have hl := own_plus vf vk p1 (by omega) (by omega) (by omega)
  generalize e_vl : (vf + ((p1 &&& (2147483647 : Int32)) % vk)) = vl at hl ⊢
  have hr_vl := rng32 vl
  show own_Go _ _ _ _ (T0.setTop (mkF m 30 #[.val (.int p0), .val (.int p1), .val (.int p2), .val (.long q3), .second, .val (.int p4), .val (.int vf), .val (.int vs), .unset, .unset, .unset, .unset, .unset, .unset, .unset, .unset, .unset, .unset, .unset, .unset, .unset, .unset] [(.int vl)]))
  refine own_go (fun t k => XS.istore A0.here hx rfl (hb hby at_30) rfl (l' := #[.val (.int p0), .val (.int p1), .val (.int p2), .val (.long q3), .second, .val (.int p4), .val (.int vf), .val (.int vs), .val (.int vl), .unset, .unset, .unset, .unset, .unset, .unset, .unset, .unset, .unset, .unset, .unset, .unset, .unset]) rfl k) ?_
  show own_Go _ _ _ _ (T0.setTop (mkF m 32 #[.val (.int p0), .val (.int p1), .val (.int p2), .val (.long q3), .second, .val (.int p4), .val (.int vf), .val (.int vs), .val (.int vl), .unset, .unset, .unset, .unset, .unset, .unset, .unset, .unset, .unset, .unset, .unset, .unset, .unset] []))
  refine own_go (fun t k => XS.lconst A0.here hx rfl (hb hby at_32) k) ?_
  show own_Go _ _ _ _ (T0.setTop (mkF m 33 #[.val (.int p0), .val (.int p1), .val (.int p2), .val (.long q3), .second, .val (.int p4), .val (.int vf), .val (.int vs), .val (.int vl), .unset, .unset, .unset, .unset, .unset, .unset, .unset, .unset, .unset, .unset, .unset, .unset, .unset] [(.long (1 : Int64))]))
  refine own_go (fun t k => XS.lloadN A0.here hx rfl (hb hby at_33) rfl k) ?_
  show own_Go _ _ _ _ (T0.setTop (mkF m 34 #[.val (.int p0), .val (.int p1), .val (.int p2), .val (.long q3), .second, .val (.int p4), .val (.int vf), .val (.int vs), .val (.int vl), .unset, .unset, .unset, .unset, .unset, .unset, .unset, .unset, .unset, .unset, .unset, .unset, .unset] [(.long q3), (.long (1 : Int64))]))
  refine own_callS A0 hx hZ hown (y := (⟨"java/lang/Math", "max", "(JJ)J"⟩ : MethodName)) (hw _ (List.mem_of_getElem? (i := 1) rfl)) (hw _ (List.mem_of_getElem? (i := 2) rfl)) (hw _ (List.mem_of_getElem? (i := 3) rfl)) (hw _ (List.mem_of_getElem? (i := 4) rfl)) (by decide) (argsL := [(.long (1 : Int64)), (.long q3)]) (rest := []) (rm1 l Z a0 hw (1 : Int64) q3 h0 n0 ) 0 (by decide) (by decide) rfl (by rw [hml]; rfl) (lenOf pd__JJ_J rfl) rfl (by show 2 * 0 + _ ≤ _; exact Nat.le_of_eq rfl) (hb hby at_34) (by decide) (by decide) (fun v4 T1 h3 A2 hQ5 => ?_)
  obtain ⟨rfl, rfl⟩ := hQ5
  show own_Go _ _ _ _ (T1.setTop (mkF m 37 #[.val (.int p0), .val (.int p1), .val (.int p2), .val (.long q3), .second, .val (.int p4), .val (.int vf), .val (.int vs), .val (.int vl), .unset, .unset, .unset, .unset, .unset, .unset, .unset, .unset, .unset, .unset, .unset, .unset, .unset] [(.long (f1 (1 : Int64) q3))]))
  have hu := own_max q3
  generalize e_vu : (f1 (1 : Int64) q3) = vu at hu ⊢
  have hr_vu := rng64 vu
  show own_Go _ _ _ _ (T1.setTop (mkF m 37 #[.val (.int p0), .val (.int p1), .val (.int p2), .val (.long q3), .second, .val (.int p4), .val (.int vf), .val (.int vs), .val (.int vl), .unset, .unset, .unset, .unset, .unset, .unset, .unset, .unset, .unset, .unset, .unset, .unset, .unset] [(.long vu)]))
  refine own_go (fun t k => XS.lstore A2.here hx rfl (hb hby at_37) rfl (l' := #[.val (.int p0), .val (.int p1), .val (.int p2), .val (.long q3), .second, .val (.int p4), .val (.int vf), .val (.int vs), .val (.int vl), .val (.long vu), .second, .unset, .unset, .unset, .unset, .unset, .unset, .unset, .unset, .unset, .unset, .unset]) rfl k) ?_
  show own_Go _ _ _ _ (T1.setTop (mkF m 39 #[.val (.int p0), .val (.int p1), .val (.int p2), .val (.long q3), .second, .val (.int p4), .val (.int vf), .val (.int vs), .val (.int vl), .val (.long vu), .second, .unset, .unset, .unset, .unset, .unset, .unset, .unset, .unset, .unset, .unset, .unset] []))
  refine own_go (fun t k => XS.iload A2.here hx rfl (hb hby at_39) rfl k) ?_
  show own_Go _ _ _ _ (T1.setTop (mkF m 41 #[.val (.int p0), .val (.int p1), .val (.int p2), .val (.long q3), .second, .val (.int p4), .val (.int vf), .val (.int vs), .val (.int vl), .val (.long vu), .second, .unset, .unset, .unset, .unset, .unset, .unset, .unset, .unset, .unset, .unset, .unset] [(.int p4)]))
  refine own_go (fun t k => XS.sipush A2.here hx rfl (hb hby at_41) k) ?_
  show own_Go _ _ _ _ (T1.setTop (mkF m 44 #[.val (.int p0), .val (.int p1), .val (.int p2), .val (.long q3), .second, .val (.int p4), .val (.int vf), .val (.int vs), .val (.int vl), .val (.long vu), .second, .unset, .unset, .unset, .unset, .unset, .unset, .unset, .unset, .unset, .unset, .unset] [(.int (1023 : Int32)), (.int p4)]))
  refine own_go (fun t k => XS.iand A2.here hx rfl (hb hby at_44) rfl k) ?_
  show own_Go _ _ _ _ (T1.setTop (mkF m 45 #[.val (.int p0), .val (.int p1), .val (.int p2), .val (.long q3), .second, .val (.int p4), .val (.int vf), .val (.int vs), .val (.int vl), .val (.long vu), .second, .unset, .unset, .unset, .unset, .unset, .unset, .unset, .unset, .unset, .unset, .unset] [(.int (p4 &&& (1023 : Int32)))]))
  refine own_go (fun t k => XS.i2dS A2.here hx rfl (hb hby at_45) rfl (v := (FP.i2d (p4 &&& (1023 : Int32)))) rfl k) ?_
  show own_Go _ _ _ _ (T1.setTop (mkF m 46 #[.val (.int p0), .val (.int p1), .val (.int p2), .val (.long q3), .second, .val (.int p4), .val (.int vf), .val (.int vs), .val (.int vl), .val (.long vu), .second, .unset, .unset, .unset, .unset, .unset, .unset, .unset, .unset, .unset, .unset, .unset] [(.double (FP.i2d (p4 &&& (1023 : Int32))))]))
  refine own_go (fun t k => XS.dstore A2.here hx rfl (hb hby at_46) rfl (l' := #[.val (.int p0), .val (.int p1), .val (.int p2), .val (.long q3), .second, .val (.int p4), .val (.int vf), .val (.int vs), .val (.int vl), .val (.long vu), .second, .val (.double (FP.i2d (p4 &&& (1023 : Int32)))), .second, .unset, .unset, .unset, .unset, .unset, .unset, .unset, .unset, .unset]) rfl k) ?_
  show own_Go _ _ _ _ (T1.setTop (mkF m 48 #[.val (.int p0), .val (.int p1), .val (.int p2), .val (.long q3), .second, .val (.int p4), .val (.int vf), .val (.int vs), .val (.int vl), .val (.long vu), .second, .val (.double (FP.i2d (p4 &&& (1023 : Int32)))), .second, .unset, .unset, .unset, .unset, .unset, .unset, .unset, .unset, .unset] []))
  refine own_go (fun t k => XS.iload A2.here hx rfl (hb hby at_48) rfl k) ?_
  show own_Go _ _ _ _ (T1.setTop (mkF m 50 #[.val (.int p0), .val (.int p1), .val (.int p2), .val (.long q3), .second, .val (.int p4), .val (.int vf), .val (.int vs), .val (.int vl), .val (.long vu), .second, .val (.double (FP.i2d (p4 &&& (1023 : Int32)))), .second, .unset, .unset, .unset, .unset, .unset, .unset, .unset, .unset, .unset] [(.int p4)]))
  refine own_go (fun t k => XS.bipush A2.here hx rfl (hb hby at_50) k) ?_
  show own_Go _ _ _ _ (T1.setTop (mkF m 52 #[.val (.int p0), .val (.int p1), .val (.int p2), .val (.long q3), .second, .val (.int p4), .val (.int vf), .val (.int vs), .val (.int vl), .val (.long vu), .second, .val (.double (FP.i2d (p4 &&& (1023 : Int32)))), .second, .unset, .unset, .unset, .unset, .unset, .unset, .unset, .unset, .unset] [(.int (10 : Int32)), (.int p4)]))
  refine own_go (fun t k => XS.iushr A2.here hx rfl (hb hby at_52) rfl k) ?_
  show own_Go _ _ _ _ (T1.setTop (mkF m 53 #[.val (.int p0), .val (.int p1), .val (.int p2), .val (.long q3), .second, .val (.int p4), .val (.int vf), .val (.int vs), .val (.int vl), .val (.long vu), .second, .val (.double (FP.i2d (p4 &&& (1023 : Int32)))), .second, .unset, .unset, .unset, .unset, .unset, .unset, .unset, .unset, .unset] [(.int ((p4.toUInt32 >>> ((10 : Int32) &&& 31).toUInt32).toInt32))]))
  refine own_go (fun t k => XS.sipush A2.here hx rfl (hb hby at_53) k) ?_
  show own_Go _ _ _ _ (T1.setTop (mkF m 56 #[.val (.int p0), .val (.int p1), .val (.int p2), .val (.long q3), .second, .val (.int p4), .val (.int vf), .val (.int vs), .val (.int vl), .val (.long vu), .second, .val (.double (FP.i2d (p4 &&& (1023 : Int32)))), .second, .unset, .unset, .unset, .unset, .unset, .unset, .unset, .unset, .unset] [(.int (1023 : Int32)), (.int ((p4.toUInt32 >>> ((10 : Int32) &&& 31).toUInt32).toInt32))]))
  refine own_go (fun t k => XS.iand A2.here hx rfl (hb hby at_56) rfl k) ?_
  show own_Go _ _ _ _ (T1.setTop (mkF m 57 #[.val (.int p0), .val (.int p1), .val (.int p2), .val (.long q3), .second, .val (.int p4), .val (.int vf), .val (.int vs), .val (.int vl), .val (.long vu), .second, .val (.double (FP.i2d (p4 &&& (1023 : Int32)))), .second, .unset, .unset, .unset, .unset, .unset, .unset, .unset, .unset, .unset] [(.int (((p4.toUInt32 >>> ((10 : Int32) &&& 31).toUInt32).toInt32) &&& (1023 : Int32)))]))
  refine own_go (fun t k => XS.i2dS A2.here hx rfl (hb hby at_57) rfl (v := (FP.i2d (((p4.toUInt32 >>> ((10 : Int32) &&& 31).toUInt32).toInt32) &&& (1023 : Int32)))) rfl k) ?_
  show own_Go _ _ _ _ (T1.setTop (mkF m 58 #[.val (.int p0), .val (.int p1), .val (.int p2), .val (.long q3), .second, .val (.int p4), .val (.int vf), .val (.int vs), .val (.int vl), .val (.long vu), .second, .val (.double (FP.i2d (p4 &&& (1023 : Int32)))), .second, .unset, .unset, .unset, .unset, .unset, .unset, .unset, .unset, .unset] [(.double (FP.i2d (((p4.toUInt32 >>> ((10 : Int32) &&& 31).toUInt32).toInt32) &&& (1023 : Int32))))]))
  refine own_go (fun t k => XS.dstore A2.here hx rfl (hb hby at_58) rfl (l' := #[.val (.int p0), .val (.int p1), .val (.int p2), .val (.long q3), .second, .val (.int p4), .val (.int vf), .val (.int vs), .val (.int vl), .val (.long vu), .second, .val (.double (FP.i2d (p4 &&& (1023 : Int32)))), .second, .val (.double (FP.i2d (((p4.toUInt32 >>> ((10 : Int32) &&& 31).toUInt32).toInt32) &&& (1023 : Int32)))), .second, .unset, .unset, .unset, .unset, .unset, .unset, .unset]) rfl k) ?_
  show own_Go _ _ _ _ (T1.setTop (mkF m 60 #[.val (.int p0), .val (.int p1), .val (.int p2), .val (.long q3), .second, .val (.int p4), .val (.int vf), .val (.int vs), .val (.int vl), .val (.long vu), .second, .val (.double (FP.i2d (p4 &&& (1023 : Int32)))), .second, .val (.double (FP.i2d (((p4.toUInt32 >>> ((10 : Int32) &&& 31).toUInt32).toInt32) &&& (1023 : Int32)))), .second, .unset, .unset, .unset, .unset, .unset, .unset, .unset] []))
  refine own_newO A2 hx hZ hown (hw _ (List.mem_of_getElem? (i := 5) rfl)) (hw _ (List.mem_of_getElem? (i := 6) rfl)) (hw _ (List.mem_of_getElem? (i := 7) rfl)) rfl (hb hby at_60) (by decide) (by decide) (fun T6 h8 b9 ha_b9 A7 E10 X11 D12 => ?_)
  have g_b9 : n0 ≤ b9 := by rw [ha_b9]; exact Z0
  have O13 : Old Z n0 h8 := O0.ext E10
  have Z14 : n0 ≤ h8.size := Nat.le_trans Z0 E10.1
  have F15 : Fld Z h8 b9 "com/example/gavelwright/gavelwright/model/Outcome$Holding" "first" "I" (.int (0 : Int32)) := D12 (Or.inr (hw _ (List.mem_of_getElem? (i := 20) rfl))) (ty := .int) (by decide)
  have F16 : Fld Z h8 b9 "com/example/gavelwright/gavelwright/model/Outcome$Holding" "last" "I" (.int (0 : Int32)) := D12 (Or.inr (hw _ (List.mem_of_getElem? (i := 22) rfl))) (ty := .int) (by decide)
  have F17 : Fld Z h8 b9 "com/example/gavelwright/gavelwright/model/Outcome$Holding" "units" "J" (.long (0 : Int64)) := D12 (Or.inr (hw _ (List.mem_of_getElem? (i := 24) rfl))) (ty := .long) (by decide)
  have F18 : Fld Z h8 b9 "com/example/gavelwright/gavelwright/model/Outcome$Holding" "value" "D" (.double 0) := D12 (Or.inr (hw _ (List.mem_of_getElem? (i := 26) rfl))) (ty := .double) (by decide)
  have F19 : Fld Z h8 b9 "com/example/gavelwright/gavelwright/model/Outcome$Holding" "payment" "D" (.double 0) := D12 (Or.inr (hw _ (List.mem_of_getElem? (i := 28) rfl))) (ty := .double) (by decide)
  show own_Go _ _ _ _ (T6.setTop (mkF m 63 #[.val (.int p0), .val (.int p1), .val (.int p2), .val (.long q3), .second, .val (.int p4), .val (.int vf), .val (.int vs), .val (.int vl), .val (.long vu), .second, .val (.double (FP.i2d (p4 &&& (1023 : Int32)))), .second, .val (.double (FP.i2d (((p4.toUInt32 >>> ((10 : Int32) &&& 31).toUInt32).toInt32) &&& (1023 : Int32)))), .second, .unset, .unset, .unset, .unset, .unset, .unset, .unset] [(.ref b9)]))
  refine own_go (fun t k => XS.dup A7.here hx rfl (hb hby at_63) rfl rfl k) ?_
  show own_Go _ _ _ _ (T6.setTop (mkF m 64 #[.val (.int p0), .val (.int p1), .val (.int p2), .val (.long q3), .second, .val (.int p4), .val (.int vf), .val (.int vs), .val (.int vl), .val (.long vu), .second, .val (.double (FP.i2d (p4 &&& (1023 : Int32)))), .second, .val (.double (FP.i2d (((p4.toUInt32 >>> ((10 : Int32) &&& 31).toUInt32).toInt32) &&& (1023 : Int32)))), .second, .unset, .unset, .unset, .unset, .unset, .unset, .unset] [(.ref b9), (.ref b9)]))
  refine own_go (fun t k => XS.iload A7.here hx rfl (hb hby at_64) rfl k) ?_
  show own_Go _ _ _ _ (T6.setTop (mkF m 66 #[.val (.int p0), .val (.int p1), .val (.int p2), .val (.long q3), .second, .val (.int p4), .val (.int vf), .val (.int vs), .val (.int vl), .val (.long vu), .second, .val (.double (FP.i2d (p4 &&& (1023 : Int32)))), .second, .val (.double (FP.i2d (((p4.toUInt32 >>> ((10 : Int32) &&& 31).toUInt32).toInt32) &&& (1023 : Int32)))), .second, .unset, .unset, .unset, .unset, .unset, .unset, .unset] [(.int vf), (.ref b9), (.ref b9)]))
  refine own_go (fun t k => XS.iload A7.here hx rfl (hb hby at_66) rfl k) ?_
  show own_Go _ _ _ _ (T6.setTop (mkF m 68 #[.val (.int p0), .val (.int p1), .val (.int p2), .val (.long q3), .second, .val (.int p4), .val (.int vf), .val (.int vs), .val (.int vl), .val (.long vu), .second, .val (.double (FP.i2d (p4 &&& (1023 : Int32)))), .second, .val (.double (FP.i2d (((p4.toUInt32 >>> ((10 : Int32) &&& 31).toUInt32).toInt32) &&& (1023 : Int32)))), .second, .unset, .unset, .unset, .unset, .unset, .unset, .unset] [(.int vl), (.int vf), (.ref b9), (.ref b9)]))
  refine own_go (fun t k => XS.lload A7.here hx rfl (hb hby at_68) rfl k) ?_
  show own_Go _ _ _ _ (T6.setTop (mkF m 70 #[.val (.int p0), .val (.int p1), .val (.int p2), .val (.long q3), .second, .val (.int p4), .val (.int vf), .val (.int vs), .val (.int vl), .val (.long vu), .second, .val (.double (FP.i2d (p4 &&& (1023 : Int32)))), .second, .val (.double (FP.i2d (((p4.toUInt32 >>> ((10 : Int32) &&& 31).toUInt32).toInt32) &&& (1023 : Int32)))), .second, .unset, .unset, .unset, .unset, .unset, .unset, .unset] [(.long vu), (.int vl), (.int vf), (.ref b9), (.ref b9)]))
  refine own_go (fun t k => XS.dload A7.here hx rfl (hb hby at_70) rfl k) ?_
  show own_Go _ _ _ _ (T6.setTop (mkF m 72 #[.val (.int p0), .val (.int p1), .val (.int p2), .val (.long q3), .second, .val (.int p4), .val (.int vf), .val (.int vs), .val (.int vl), .val (.long vu), .second, .val (.double (FP.i2d (p4 &&& (1023 : Int32)))), .second, .val (.double (FP.i2d (((p4.toUInt32 >>> ((10 : Int32) &&& 31).toUInt32).toInt32) &&& (1023 : Int32)))), .second, .unset, .unset, .unset, .unset, .unset, .unset, .unset] [(.double (FP.i2d (p4 &&& (1023 : Int32)))), (.long vu), (.int vl), (.int vf), (.ref b9), (.ref b9)]))
  refine own_go (fun t k => XS.dload A7.here hx rfl (hb hby at_72) rfl k) ?_
  show own_Go _ _ _ _ (T6.setTop (mkF m 74 #[.val (.int p0), .val (.int p1), .val (.int p2), .val (.long q3), .second, .val (.int p4), .val (.int vf), .val (.int vs), .val (.int vl), .val (.long vu), .second, .val (.double (FP.i2d (p4 &&& (1023 : Int32)))), .second, .val (.double (FP.i2d (((p4.toUInt32 >>> ((10 : Int32) &&& 31).toUInt32).toInt32) &&& (1023 : Int32)))), .second, .unset, .unset, .unset, .unset, .unset, .unset, .unset] [(.double (FP.i2d (((p4.toUInt32 >>> ((10 : Int32) &&& 31).toUInt32).toInt32) &&& (1023 : Int32)))), (.double (FP.i2d (p4 &&& (1023 : Int32)))), (.long vu), (.int vl), (.int vf), (.ref b9), (.ref b9)]))
  refine own_callI A7 hx hZ (y := (⟨"com/example/gavelwright/gavelwright/model/Outcome$Holding", "<init>", "(IIJDD)V"⟩ : MethodName)) rfl hown (hw _ (List.mem_of_getElem? (i := 8) rfl)) (hw _ (List.mem_of_getElem? (i := 9) rfl)) (hw _ (List.mem_of_getElem? (i := 7) rfl)) (hw _ (List.mem_of_getElem? (i := 10) rfl)) (by decide) (b := b9) (argsL := [(.int vf), (.int vl), (.long vu), (.double (FP.i2d (p4 &&& (1023 : Int32)))), (.double (FP.i2d (((p4.toUInt32 >>> ((10 : Int32) &&& 31).toUInt32).toInt32) &&& (1023 : Int32))))]) (rest := [(.ref b9)]) (rm2 l Z a0 hw b9 vf vl vu (FP.i2d (p4 &&& (1023 : Int32))) (FP.i2d (((p4.toUInt32 >>> ((10 : Int32) &&& 31).toUInt32).toInt32) &&& (1023 : Int32))) h8 n0 X11 g_b9 F15 F16 F17 F18 F19 (own_nl (by rw [own_I1]; omega)) (own_nl (by omega)) (own_lcge (by rw [own_J1]; omega))) 1 (by decide) (by decide) rfl (by rw [hml]; rfl) (lenOf pd__IIJDD_V rfl) rfl (by show 2 * 0 + _ ≤ _; exact Nat.le_of_eq rfl) (hb hby at_74) (by decide) (by decide) (fun v23 T20 h22 A21 hQ24 => ?_)
  obtain ⟨rfl, K25, F26, F27⟩ := hQ24
  have O28 : Old Z n0 h22 := O13.keep K25 (allS g_b9 all0)
  have Z29 : n0 ≤ h22.size := Nat.le_trans Z14 K25.1
  have E30 : Exa Z h22 b9 "com/example/gavelwright/gavelwright/model/Outcome$Holding" := X11.keep K25
  show own_Go _ _ _ _ (T20.setTop (mkF m 77 #[.val (.int p0), .val (.int p1), .val (.int p2), .val (.long q3), .second, .val (.int p4), .val (.int vf), .val (.int vs), .val (.int vl), .val (.long vu), .second, .val (.double (FP.i2d (p4 &&& (1023 : Int32)))), .second, .val (.double (FP.i2d (((p4.toUInt32 >>> ((10 : Int32) &&& 31).toUInt32).toInt32) &&& (1023 : Int32)))), .second, .unset, .unset, .unset, .unset, .unset, .unset, .unset] [(.ref b9)]))
  refine own_go (fun t k => XS.astore A21.here hx rfl (hb hby at_77) rfl rfl (l' := #[.val (.int p0), .val (.int p1), .val (.int p2), .val (.long q3), .second, .val (.int p4), .val (.int vf), .val (.int vs), .val (.int vl), .val (.long vu), .second, .val (.double (FP.i2d (p4 &&& (1023 : Int32)))), .second, .val (.double (FP.i2d (((p4.toUInt32 >>> ((10 : Int32) &&& 31).toUInt32).toInt32) &&& (1023 : Int32)))), .second, .val (.ref b9), .unset, .unset, .unset, .unset, .unset, .unset]) rfl k) ?_
  show own_Go _ _ _ _ (T20.setTop (mkF m 79 #[.val (.int p0), .val (.int p1), .val (.int p2), .val (.long q3), .second, .val (.int p4), .val (.int vf), .val (.int vs), .val (.int vl), .val (.long vu), .second, .val (.double (FP.i2d (p4 &&& (1023 : Int32)))), .second, .val (.double (FP.i2d (((p4.toUInt32 >>> ((10 : Int32) &&& 31).toUInt32).toInt32) &&& (1023 : Int32)))), .second, .val (.ref b9), .unset, .unset, .unset, .unset, .unset, .unset] []))
  refine own_go (fun t k => XS.aload A21.here hx rfl (hb hby at_79) rfl rfl k) ?_
  show own_Go _ _ _ _ (T20.setTop (mkF m 81 #[.val (.int p0), .val (.int p1), .val (.int p2), .val (.long q3), .second, .val (.int p4), .val (.int vf), .val (.int vs), .val (.int vl), .val (.long vu), .second, .val (.double (FP.i2d (p4 &&& (1023 : Int32)))), .second, .val (.double (FP.i2d (((p4.toUInt32 >>> ((10 : Int32) &&& 31).toUInt32).toInt32) &&& (1023 : Int32)))), .second, .val (.ref b9), .unset, .unset, .unset, .unset, .unset, .unset] [(.ref b9)]))
  refine own_callV A21 hx hZ (y := (⟨"com/example/gavelwright/gavelwright/model/Outcome$Holding", "slots", "()J"⟩ : MethodName)) (z := (⟨"com/example/gavelwright/gavelwright/model/Outcome$Holding", "slots", "()J"⟩ : MethodName)) hown (hw _ (List.mem_of_getElem? (i := 29) rfl)) (hw _ (List.mem_of_getElem? (i := 30) rfl)) (hw _ (List.mem_of_getElem? (i := 32) rfl)) (hw _ (List.mem_of_getElem? (i := 31) rfl)) (hw _ (List.mem_of_getElem? (i := 7) rfl)) (hw _ (List.mem_of_getElem? (i := 33) rfl)) (notFace_of_selects (args := #[]) (mvT hZ (hw _ (List.mem_of_getElem? (i := 32) rfl)))) (by decide) (b := b9) (argsL := []) (rest := []) E30 (rm5 l Z a0 hw b9 vl vf h22 n0 F27 F26) 0 (by decide) (by decide) rfl (by rw [hml]; rfl) (lenOf pd___J rfl) rfl (by show 2 * 0 + _ ≤ _; exact Nat.le_of_eq rfl) (hb hby at_81) (by decide) (by decide) (fun v34 T31 h33 A32 hQ35 => ?_)
  obtain ⟨rfl, rfl⟩ := hQ35
  show own_Go _ _ _ _ (T31.setTop (mkF m 84 #[.val (.int p0), .val (.int p1), .val (.int p2), .val (.long q3), .second, .val (.int p4), .val (.int vf), .val (.int vs), .val (.int vl), .val (.long vu), .second, .val (.double (FP.i2d (p4 &&& (1023 : Int32)))), .second, .val (.double (FP.i2d (((p4.toUInt32 >>> ((10 : Int32) &&& 31).toUInt32).toInt32) &&& (1023 : Int32)))), .second, .val (.ref b9), .unset, .unset, .unset, .unset, .unset, .unset] [(.long (f5 vl vf))]))
  have h_zs := own_slots vl vf
  generalize e_zs : (f5 vl vf) = zs at h_zs ⊢
  show own_Go _ _ _ _ (T31.setTop (mkF m 84 #[.val (.int p0), .val (.int p1), .val (.int p2), .val (.long q3), .second, .val (.int p4), .val (.int vf), .val (.int vs), .val (.int vl), .val (.long vu), .second, .val (.double (FP.i2d (p4 &&& (1023 : Int32)))), .second, .val (.double (FP.i2d (((p4.toUInt32 >>> ((10 : Int32) &&& 31).toUInt32).toInt32) &&& (1023 : Int32)))), .second, .val (.ref b9), .unset, .unset, .unset, .unset, .unset, .unset] [(.long zs)]))
  refine own_go (fun t k => XS.lstore A32.here hx rfl (hb hby at_84) rfl (l' := #[.val (.int p0), .val (.int p1), .val (.int p2), .val (.long q3), .second, .val (.int p4), .val (.int vf), .val (.int vs), .val (.int vl), .val (.long vu), .second, .val (.double (FP.i2d (p4 &&& (1023 : Int32)))), .second, .val (.double (FP.i2d (((p4.toUInt32 >>> ((10 : Int32) &&& 31).toUInt32).toInt32) &&& (1023 : Int32)))), .second, .val (.ref b9), .val (.long zs), .second, .unset, .unset, .unset, .unset]) rfl k) ?_
  show own_Go _ _ _ _ (T31.setTop (mkF m 86 #[.val (.int p0), .val (.int p1), .val (.int p2), .val (.long q3), .second, .val (.int p4), .val (.int vf), .val (.int vs), .val (.int vl), .val (.long vu), .second, .val (.double (FP.i2d (p4 &&& (1023 : Int32)))), .second, .val (.double (FP.i2d (((p4.toUInt32 >>> ((10 : Int32) &&& 31).toUInt32).toInt32) &&& (1023 : Int32)))), .second, .val (.ref b9), .val (.long zs), .second, .unset, .unset, .unset, .unset] []))
  refine own_newO A32 hx hZ hown (hw _ (List.mem_of_getElem? (i := 5) rfl)) (hw _ (List.mem_of_getElem? (i := 6) rfl)) (hw _ (List.mem_of_getElem? (i := 7) rfl)) rfl (hb hby at_86) (by decide) (by decide) (fun T36 h38 b39 ha_b39 A37 E40 X41 D42 => ?_)
  have ne_b9_b39 : b9 ≠ b39 := Nat.ne_of_lt (by rw [ha_b39]; exact E30.lt)
  have g_b39 : n0 ≤ b39 := by rw [ha_b39]; exact Z29
  have O43 : Old Z n0 h38 := O28.ext E40
  have Z44 : n0 ≤ h38.size := Nat.le_trans Z29 E40.1
  have E45 : Exa Z h38 b9 "com/example/gavelwright/gavelwright/model/Outcome$Holding" := E30.ext E40
  have F46 : Fld Z h38 b9 "com/example/gavelwright/gavelwright/model/Outcome$Holding" "first" "I" (.int vf) := F26.ext E40
  have F47 : Fld Z h38 b9 "com/example/gavelwright/gavelwright/model/Outcome$Holding" "last" "I" (.int vl) := F27.ext E40
  have F48 : Fld Z h38 b39 "com/example/gavelwright/gavelwright/model/Outcome$Holding" "first" "I" (.int (0 : Int32)) := D42 (Or.inr (hw _ (List.mem_of_getElem? (i := 20) rfl))) (ty := .int) (by decide)
  have F49 : Fld Z h38 b39 "com/example/gavelwright/gavelwright/model/Outcome$Holding" "last" "I" (.int (0 : Int32)) := D42 (Or.inr (hw _ (List.mem_of_getElem? (i := 22) rfl))) (ty := .int) (by decide)
  have F50 : Fld Z h38 b39 "com/example/gavelwright/gavelwright/model/Outcome$Holding" "units" "J" (.long (0 : Int64)) := D42 (Or.inr (hw _ (List.mem_of_getElem? (i := 24) rfl))) (ty := .long) (by decide)
  have F51 : Fld Z h38 b39 "com/example/gavelwright/gavelwright/model/Outcome$Holding" "value" "D" (.double 0) := D42 (Or.inr (hw _ (List.mem_of_getElem? (i := 26) rfl))) (ty := .double) (by decide)
  have F52 : Fld Z h38 b39 "com/example/gavelwright/gavelwright/model/Outcome$Holding" "payment" "D" (.double 0) := D42 (Or.inr (hw _ (List.mem_of_getElem? (i := 28) rfl))) (ty := .double) (by decide)
  show own_Go _ _ _ _ (T36.setTop (mkF m 89 #[.val (.int p0), .val (.int p1), .val (.int p2), .val (.long q3), .second, .val (.int p4), .val (.int vf), .val (.int vs), .val (.int vl), .val (.long vu), .second, .val (.double (FP.i2d (p4 &&& (1023 : Int32)))), .second, .val (.double (FP.i2d (((p4.toUInt32 >>> ((10 : Int32) &&& 31).toUInt32).toInt32) &&& (1023 : Int32)))), .second, .val (.ref b9), .val (.long zs), .second, .unset, .unset, .unset, .unset] [(.ref b39)]))
  refine own_go (fun t k => XS.dup A37.here hx rfl (hb hby at_89) rfl rfl k) ?_
  show own_Go _ _ _ _ (T36.setTop (mkF m 90 #[.val (.int p0), .val (.int p1), .val (.int p2), .val (.long q3), .second, .val (.int p4), .val (.int vf), .val (.int vs), .val (.int vl), .val (.long vu), .second, .val (.double (FP.i2d (p4 &&& (1023 : Int32)))), .second, .val (.double (FP.i2d (((p4.toUInt32 >>> ((10 : Int32) &&& 31).toUInt32).toInt32) &&& (1023 : Int32)))), .second, .val (.ref b9), .val (.long zs), .second, .unset, .unset, .unset, .unset] [(.ref b39), (.ref b39)]))
  refine own_go (fun t k => XS.iload A37.here hx rfl (hb hby at_90) rfl k) ?_
  show own_Go _ _ _ _ (T36.setTop (mkF m 92 #[.val (.int p0), .val (.int p1), .val (.int p2), .val (.long q3), .second, .val (.int p4), .val (.int vf), .val (.int vs), .val (.int vl), .val (.long vu), .second, .val (.double (FP.i2d (p4 &&& (1023 : Int32)))), .second, .val (.double (FP.i2d (((p4.toUInt32 >>> ((10 : Int32) &&& 31).toUInt32).toInt32) &&& (1023 : Int32)))), .second, .val (.ref b9), .val (.long zs), .second, .unset, .unset, .unset, .unset] [(.int vl), (.ref b39), (.ref b39)]))
  refine own_go (fun t k => XS.iload A37.here hx rfl (hb hby at_92) rfl k) ?_
  show own_Go _ _ _ _ (T36.setTop (mkF m 94 #[.val (.int p0), .val (.int p1), .val (.int p2), .val (.long q3), .second, .val (.int p4), .val (.int vf), .val (.int vs), .val (.int vl), .val (.long vu), .second, .val (.double (FP.i2d (p4 &&& (1023 : Int32)))), .second, .val (.double (FP.i2d (((p4.toUInt32 >>> ((10 : Int32) &&& 31).toUInt32).toInt32) &&& (1023 : Int32)))), .second, .val (.ref b9), .val (.long zs), .second, .unset, .unset, .unset, .unset] [(.int vl), (.int vl), (.ref b39), (.ref b39)]))
  refine own_go (fun t k => XS.lload A37.here hx rfl (hb hby at_94) rfl k) ?_
  show own_Go _ _ _ _ (T36.setTop (mkF m 96 #[.val (.int p0), .val (.int p1), .val (.int p2), .val (.long q3), .second, .val (.int p4), .val (.int vf), .val (.int vs), .val (.int vl), .val (.long vu), .second, .val (.double (FP.i2d (p4 &&& (1023 : Int32)))), .second, .val (.double (FP.i2d (((p4.toUInt32 >>> ((10 : Int32) &&& 31).toUInt32).toInt32) &&& (1023 : Int32)))), .second, .val (.ref b9), .val (.long zs), .second, .unset, .unset, .unset, .unset] [(.long vu), (.int vl), (.int vl), (.ref b39), (.ref b39)]))
  refine own_go (fun t k => XS.dload A37.here hx rfl (hb hby at_96) rfl k) ?_
  show own_Go _ _ _ _ (T36.setTop (mkF m 98 #[.val (.int p0), .val (.int p1), .val (.int p2), .val (.long q3), .second, .val (.int p4), .val (.int vf), .val (.int vs), .val (.int vl), .val (.long vu), .second, .val (.double (FP.i2d (p4 &&& (1023 : Int32)))), .second, .val (.double (FP.i2d (((p4.toUInt32 >>> ((10 : Int32) &&& 31).toUInt32).toInt32) &&& (1023 : Int32)))), .second, .val (.ref b9), .val (.long zs), .second, .unset, .unset, .unset, .unset] [(.double (FP.i2d (p4 &&& (1023 : Int32)))), (.long vu), (.int vl), (.int vl), (.ref b39), (.ref b39)]))
  refine own_go (fun t k => XS.dload A37.here hx rfl (hb hby at_98) rfl k) ?_
  show own_Go _ _ _ _ (T36.setTop (mkF m 100 #[.val (.int p0), .val (.int p1), .val (.int p2), .val (.long q3), .second, .val (.int p4), .val (.int vf), .val (.int vs), .val (.int vl), .val (.long vu), .second, .val (.double (FP.i2d (p4 &&& (1023 : Int32)))), .second, .val (.double (FP.i2d (((p4.toUInt32 >>> ((10 : Int32) &&& 31).toUInt32).toInt32) &&& (1023 : Int32)))), .second, .val (.ref b9), .val (.long zs), .second, .unset, .unset, .unset, .unset] [(.double (FP.i2d (((p4.toUInt32 >>> ((10 : Int32) &&& 31).toUInt32).toInt32) &&& (1023 : Int32)))), (.double (FP.i2d (p4 &&& (1023 : Int32)))), (.long vu), (.int vl), (.int vl), (.ref b39), (.ref b39)]))
  refine own_callI A37 hx hZ (y := (⟨"com/example/gavelwright/gavelwright/model/Outcome$Holding", "<init>", "(IIJDD)V"⟩ : MethodName)) rfl hown (hw _ (List.mem_of_getElem? (i := 8) rfl)) (hw _ (List.mem_of_getElem? (i := 9) rfl)) (hw _ (List.mem_of_getElem? (i := 7) rfl)) (hw _ (List.mem_of_getElem? (i := 10) rfl)) (by decide) (b := b39) (argsL := [(.int vl), (.int vl), (.long vu), (.double (FP.i2d (p4 &&& (1023 : Int32)))), (.double (FP.i2d (((p4.toUInt32 >>> ((10 : Int32) &&& 31).toUInt32).toInt32) &&& (1023 : Int32))))]) (rest := [(.ref b39)]) (rm2 l Z a0 hw b39 vl vl vu (FP.i2d (p4 &&& (1023 : Int32))) (FP.i2d (((p4.toUInt32 >>> ((10 : Int32) &&& 31).toUInt32).toInt32) &&& (1023 : Int32))) h38 n0 X41 g_b39 F48 F49 F50 F51 F52 (own_nl (by rw [own_I1]; omega)) (own_nl (by omega)) (own_lcge (by rw [own_J1]; omega))) 1 (by decide) (by decide) rfl (by rw [hml]; rfl) (lenOf pd__IIJDD_V rfl) rfl (by show 2 * 0 + _ ≤ _; exact Nat.le_of_eq rfl) (hb hby at_100) (by decide) (by decide) (fun v56 T53 h55 A54 hQ57 => ?_)
  obtain ⟨rfl, K58, F59, F60⟩ := hQ57
  have O61 : Old Z n0 h55 := O43.keep K58 (allS g_b39 all0)
  have Z62 : n0 ≤ h55.size := Nat.le_trans Z44 K58.1
  have E63 : Exa Z h55 b9 "com/example/gavelwright/gavelwright/model/Outcome$Holding" := E45.keep K58
  have F64 : Fld Z h55 b9 "com/example/gavelwright/gavelwright/model/Outcome$Holding" "first" "I" (.int vf) := F46.keep K58 (ninS ne_b9_b39 nin0)
  have F65 : Fld Z h55 b9 "com/example/gavelwright/gavelwright/model/Outcome$Holding" "last" "I" (.int vl) := F47.keep K58 (ninS ne_b9_b39 nin0)
  have E66 : Exa Z h55 b39 "com/example/gavelwright/gavelwright/model/Outcome$Holding" := X41.keep K58
  show own_Go _ _ _ _ (T53.setTop (mkF m 103 #[.val (.int p0), .val (.int p1), .val (.int p2), .val (.long q3), .second, .val (.int p4), .val (.int vf), .val (.int vs), .val (.int vl), .val (.long vu), .second, .val (.double (FP.i2d (p4 &&& (1023 : Int32)))), .second, .val (.double (FP.i2d (((p4.toUInt32 >>> ((10 : Int32) &&& 31).toUInt32).toInt32) &&& (1023 : Int32)))), .second, .val (.ref b9), .val (.long zs), .second, .unset, .unset, .unset, .unset] [(.ref b39)]))
  refine own_go (fun t k => XS.astore A54.here hx rfl (hb hby at_103) rfl rfl (l' := #[.val (.int p0), .val (.int p1), .val (.int p2), .val (.long q3), .second, .val (.int p4), .val (.int vf), .val (.int vs), .val (.int vl), .val (.long vu), .second, .val (.double (FP.i2d (p4 &&& (1023 : Int32)))), .second, .val (.double (FP.i2d (((p4.toUInt32 >>> ((10 : Int32) &&& 31).toUInt32).toInt32) &&& (1023 : Int32)))), .second, .val (.ref b9), .val (.long zs), .second, .val (.ref b39), .unset, .unset, .unset]) rfl k) ?_
  show own_Go _ _ _ _ (T53.setTop (mkF m 105 #[.val (.int p0), .val (.int p1), .val (.int p2), .val (.long q3), .second, .val (.int p4), .val (.int vf), .val (.int vs), .val (.int vl), .val (.long vu), .second, .val (.double (FP.i2d (p4 &&& (1023 : Int32)))), .second, .val (.double (FP.i2d (((p4.toUInt32 >>> ((10 : Int32) &&& 31).toUInt32).toInt32) &&& (1023 : Int32)))), .second, .val (.ref b9), .val (.long zs), .second, .val (.ref b39), .unset, .unset, .unset] []))
  refine own_go (fun t k => XS.aload A54.here hx rfl (hb hby at_105) rfl rfl k) ?_
  show own_Go _ _ _ _ (T53.setTop (mkF m 107 #[.val (.int p0), .val (.int p1), .val (.int p2), .val (.long q3), .second, .val (.int p4), .val (.int vf), .val (.int vs), .val (.int vl), .val (.long vu), .second, .val (.double (FP.i2d (p4 &&& (1023 : Int32)))), .second, .val (.double (FP.i2d (((p4.toUInt32 >>> ((10 : Int32) &&& 31).toUInt32).toInt32) &&& (1023 : Int32)))), .second, .val (.ref b9), .val (.long zs), .second, .val (.ref b39), .unset, .unset, .unset] [(.ref b39)]))
  refine own_callV A54 hx hZ (y := (⟨"com/example/gavelwright/gavelwright/model/Outcome$Holding", "slots", "()J"⟩ : MethodName)) (z := (⟨"com/example/gavelwright/gavelwright/model/Outcome$Holding", "slots", "()J"⟩ : MethodName)) hown (hw _ (List.mem_of_getElem? (i := 29) rfl)) (hw _ (List.mem_of_getElem? (i := 30) rfl)) (hw _ (List.mem_of_getElem? (i := 32) rfl)) (hw _ (List.mem_of_getElem? (i := 31) rfl)) (hw _ (List.mem_of_getElem? (i := 7) rfl)) (hw _ (List.mem_of_getElem? (i := 33) rfl)) (notFace_of_selects (args := #[]) (mvT hZ (hw _ (List.mem_of_getElem? (i := 32) rfl)))) (by decide) (b := b39) (argsL := []) (rest := []) E66 (rm5 l Z a0 hw b39 vl vl h55 n0 F60 F59) 0 (by decide) (by decide) rfl (by rw [hml]; rfl) (lenOf pd___J rfl) rfl (by show 2 * 0 + _ ≤ _; exact Nat.le_of_eq rfl) (hb hby at_107) (by decide) (by decide) (fun v70 T67 h69 A68 hQ71 => ?_)
  obtain ⟨rfl, rfl⟩ := hQ71
  show own_Go _ _ _ _ (T67.setTop (mkF m 110 #[.val (.int p0), .val (.int p1), .val (.int p2), .val (.long q3), .second, .val (.int p4), .val (.int vf), .val (.int vs), .val (.int vl), .val (.long vu), .second, .val (.double (FP.i2d (p4 &&& (1023 : Int32)))), .second, .val (.double (FP.i2d (((p4.toUInt32 >>> ((10 : Int32) &&& 31).toUInt32).toInt32) &&& (1023 : Int32)))), .second, .val (.ref b9), .val (.long zs), .second, .val (.ref b39), .unset, .unset, .unset] [(.long (f5 vl vl))]))
  have h_z1 := own_slots vl vl
  generalize e_z1 : (f5 vl vl) = z1 at h_z1 ⊢
  show own_Go _ _ _ _ (T67.setTop (mkF m 110 #[.val (.int p0), .val (.int p1), .val (.int p2), .val (.long q3), .second, .val (.int p4), .val (.int vf), .val (.int vs), .val (.int vl), .val (.long vu), .second, .val (.double (FP.i2d (p4 &&& (1023 : Int32)))), .second, .val (.double (FP.i2d (((p4.toUInt32 >>> ((10 : Int32) &&& 31).toUInt32).toInt32) &&& (1023 : Int32)))), .second, .val (.ref b9), .val (.long zs), .second, .val (.ref b39), .unset, .unset, .unset] [(.long z1)]))
  refine own_go (fun t k => XS.lconst A68.here hx rfl (hb hby at_110) k) ?_
  show own_Go _ _ _ _ (T67.setTop (mkF m 111 #[.val (.int p0), .val (.int p1), .val (.int p2), .val (.long q3), .second, .val (.int p4), .val (.int vf), .val (.int vs), .val (.int vl), .val (.long vu), .second, .val (.double (FP.i2d (p4 &&& (1023 : Int32)))), .second, .val (.double (FP.i2d (((p4.toUInt32 >>> ((10 : Int32) &&& 31).toUInt32).toInt32) &&& (1023 : Int32)))), .second, .val (.ref b9), .val (.long zs), .second, .val (.ref b39), .unset, .unset, .unset] [(.long (1 : Int64)), (.long z1)]))
  refine own_go (fun t k => XS.lcmp A68.here hx rfl (hb hby at_111) rfl k) ?_
  show own_Go _ _ _ _ (T67.setTop (mkF m 112 #[.val (.int p0), .val (.int p1), .val (.int p2), .val (.long q3), .second, .val (.int p4), .val (.int vf), .val (.int vs), .val (.int vl), .val (.long vu), .second, .val (.double (FP.i2d (p4 &&& (1023 : Int32)))), .second, .val (.double (FP.i2d (((p4.toUInt32 >>> ((10 : Int32) &&& 31).toUInt32).toInt32) &&& (1023 : Int32)))), .second, .val (.ref b9), .val (.long zs), .second, .val (.ref b39), .unset, .unset, .unset] [(.int (lcmpW z1 (1 : Int64)))]))
  have hc72 : (lcmpW z1 (1 : Int64)) = (0 : Int32) := own_lc0 (by rw [own_J1]; omega)
  refine own_go (fun t k => XS.ifYes A68.here hx rfl (pc0 := 112) (pc' := 117) rfl (hb hby at_112) rfl ((if0 _ _).trans (teq hc72).1) (by decide) (by decide) k) ?_
  show own_Go _ _ _ _ (T67.setTop (mkF m 117 #[.val (.int p0), .val (.int p1), .val (.int p2), .val (.long q3), .second, .val (.int p4), .val (.int vf), .val (.int vs), .val (.int vl), .val (.long vu), .second, .val (.double (FP.i2d (p4 &&& (1023 : Int32)))), .second, .val (.double (FP.i2d (((p4.toUInt32 >>> ((10 : Int32) &&& 31).toUInt32).toInt32) &&& (1023 : Int32)))), .second, .val (.ref b9), .val (.long zs), .second, .val (.ref b39), .unset, .unset, .unset] []))
  refine own_go (fun t k => XS.lload A68.here hx rfl (hb hby at_117) rfl k) ?_
  show own_Go _ _ _ _ (T67.setTop (mkF m 119 #[.val (.int p0), .val (.int p1), .val (.int p2), .val (.long q3), .second, .val (.int p4), .val (.int vf), .val (.int vs), .val (.int vl), .val (.long vu), .second, .val (.double (FP.i2d (p4 &&& (1023 : Int32)))), .second, .val (.double (FP.i2d (((p4.toUInt32 >>> ((10 : Int32) &&& 31).toUInt32).toInt32) &&& (1023 : Int32)))), .second, .val (.ref b9), .val (.long zs), .second, .val (.ref b39), .unset, .unset, .unset] [(.long zs)]))
  refine own_go (fun t k => XS.lconst A68.here hx rfl (hb hby at_119) k) ?_
  show own_Go _ _ _ _ (T67.setTop (mkF m 120 #[.val (.int p0), .val (.int p1), .val (.int p2), .val (.long q3), .second, .val (.int p4), .val (.int vf), .val (.int vs), .val (.int vl), .val (.long vu), .second, .val (.double (FP.i2d (p4 &&& (1023 : Int32)))), .second, .val (.double (FP.i2d (((p4.toUInt32 >>> ((10 : Int32) &&& 31).toUInt32).toInt32) &&& (1023 : Int32)))), .second, .val (.ref b9), .val (.long zs), .second, .val (.ref b39), .unset, .unset, .unset] [(.long (1 : Int64)), (.long zs)]))
  refine own_go (fun t k => XS.lcmp A68.here hx rfl (hb hby at_120) rfl k) ?_
  show own_Go _ _ _ _ (T67.setTop (mkF m 121 #[.val (.int p0), .val (.int p1), .val (.int p2), .val (.long q3), .second, .val (.int p4), .val (.int vf), .val (.int vs), .val (.int vl), .val (.long vu), .second, .val (.double (FP.i2d (p4 &&& (1023 : Int32)))), .second, .val (.double (FP.i2d (((p4.toUInt32 >>> ((10 : Int32) &&& 31).toUInt32).toInt32) &&& (1023 : Int32)))), .second, .val (.ref b9), .val (.long zs), .second, .val (.ref b39), .unset, .unset, .unset] [(.int (lcmpW zs (1 : Int64)))]))
  have hc73 : ¬ ((lcmpW zs (1 : Int64)) < (0 : Int32)) := own_lcge (by rw [own_J1]; omega)
  refine own_go (fun t k => XS.ifNo A68.here hx rfl (hb hby at_121) rfl ((if0 _ _).trans (flt hc73).1) k) ?_
  show own_Go _ _ _ _ (T67.setTop (mkF m 124 #[.val (.int p0), .val (.int p1), .val (.int p2), .val (.long q3), .second, .val (.int p4), .val (.int vf), .val (.int vs), .val (.int vl), .val (.long vu), .second, .val (.double (FP.i2d (p4 &&& (1023 : Int32)))), .second, .val (.double (FP.i2d (((p4.toUInt32 >>> ((10 : Int32) &&& 31).toUInt32).toInt32) &&& (1023 : Int32)))), .second, .val (.ref b9), .val (.long zs), .second, .val (.ref b39), .unset, .unset, .unset] []))
  refine own_go (fun t k => XS.lload A68.here hx rfl (hb hby at_124) rfl k) ?_
  show own_Go _ _ _ _ (T67.setTop (mkF m 126 #[.val (.int p0), .val (.int p1), .val (.int p2), .val (.long q3), .second, .val (.int p4), .val (.int vf), .val (.int vs), .val (.int vl), .val (.long vu), .second, .val (.double (FP.i2d (p4 &&& (1023 : Int32)))), .second, .val (.double (FP.i2d (((p4.toUInt32 >>> ((10 : Int32) &&& 31).toUInt32).toInt32) &&& (1023 : Int32)))), .second, .val (.ref b9), .val (.long zs), .second, .val (.ref b39), .unset, .unset, .unset] [(.long zs)]))
  refine own_go (fun t k => XS.iload A68.here hx rfl (hb hby at_126) rfl k) ?_
  show own_Go _ _ _ _ (T67.setTop (mkF m 128 #[.val (.int p0), .val (.int p1), .val (.int p2), .val (.long q3), .second, .val (.int p4), .val (.int vf), .val (.int vs), .val (.int vl), .val (.long vu), .second, .val (.double (FP.i2d (p4 &&& (1023 : Int32)))), .second, .val (.double (FP.i2d (((p4.toUInt32 >>> ((10 : Int32) &&& 31).toUInt32).toInt32) &&& (1023 : Int32)))), .second, .val (.ref b9), .val (.long zs), .second, .val (.ref b39), .unset, .unset, .unset] [(.int vl), (.long zs)]))
  refine own_go (fun t k => XS.i2l A68.here hx rfl (hb hby at_128) rfl k) ?_
  show own_Go _ _ _ _ (T67.setTop (mkF m 129 #[.val (.int p0), .val (.int p1), .val (.int p2), .val (.long q3), .second, .val (.int p4), .val (.int vf), .val (.int vs), .val (.int vl), .val (.long vu), .second, .val (.double (FP.i2d (p4 &&& (1023 : Int32)))), .second, .val (.double (FP.i2d (((p4.toUInt32 >>> ((10 : Int32) &&& 31).toUInt32).toInt32) &&& (1023 : Int32)))), .second, .val (.ref b9), .val (.long zs), .second, .val (.ref b39), .unset, .unset, .unset] [(.long (vl.toInt64)), (.long zs)]))
  refine own_go (fun t k => XS.lcmp A68.here hx rfl (hb hby at_129) rfl k) ?_
  show own_Go _ _ _ _ (T67.setTop (mkF m 130 #[.val (.int p0), .val (.int p1), .val (.int p2), .val (.long q3), .second, .val (.int p4), .val (.int vf), .val (.int vs), .val (.int vl), .val (.long vu), .second, .val (.double (FP.i2d (p4 &&& (1023 : Int32)))), .second, .val (.double (FP.i2d (((p4.toUInt32 >>> ((10 : Int32) &&& 31).toUInt32).toInt32) &&& (1023 : Int32)))), .second, .val (.ref b9), .val (.long zs), .second, .val (.ref b39), .unset, .unset, .unset] [(.int (lcmpW zs (vl.toInt64)))]))
  have hc74 : ¬ ((0 : Int32) < (lcmpW zs (vl.toInt64))) := own_lcle (by rw [c_i2l]; omega)
  refine own_go (fun t k => XS.ifYes A68.here hx rfl (pc0 := 130) (pc' := 135) rfl (hb hby at_130) rfl ((if0 _ _).trans (flt hc74).2.2.2) (by decide) (by decide) k) ?_
  show own_Go _ _ _ _ (T67.setTop (mkF m 135 #[.val (.int p0), .val (.int p1), .val (.int p2), .val (.long q3), .second, .val (.int p4), .val (.int vf), .val (.int vs), .val (.int vl), .val (.long vu), .second, .val (.double (FP.i2d (p4 &&& (1023 : Int32)))), .second, .val (.double (FP.i2d (((p4.toUInt32 >>> ((10 : Int32) &&& 31).toUInt32).toInt32) &&& (1023 : Int32)))), .second, .val (.ref b9), .val (.long zs), .second, .val (.ref b39), .unset, .unset, .unset] []))
  refine own_go (fun t k => XS.iload A68.here hx rfl (hb hby at_135) rfl k) ?_
  show own_Go _ _ _ _ (T67.setTop (mkF m 137 #[.val (.int p0), .val (.int p1), .val (.int p2), .val (.long q3), .second, .val (.int p4), .val (.int vf), .val (.int vs), .val (.int vl), .val (.long vu), .second, .val (.double (FP.i2d (p4 &&& (1023 : Int32)))), .second, .val (.double (FP.i2d (((p4.toUInt32 >>> ((10 : Int32) &&& 31).toUInt32).toInt32) &&& (1023 : Int32)))), .second, .val (.ref b9), .val (.long zs), .second, .val (.ref b39), .unset, .unset, .unset] [(.int vl)]))
  refine own_go (fun t k => XS.iload A68.here hx rfl (hb hby at_137) rfl k) ?_
  show own_Go _ _ _ _ (T67.setTop (mkF m 139 #[.val (.int p0), .val (.int p1), .val (.int p2), .val (.long q3), .second, .val (.int p4), .val (.int vf), .val (.int vs), .val (.int vl), .val (.long vu), .second, .val (.double (FP.i2d (p4 &&& (1023 : Int32)))), .second, .val (.double (FP.i2d (((p4.toUInt32 >>> ((10 : Int32) &&& 31).toUInt32).toInt32) &&& (1023 : Int32)))), .second, .val (.ref b9), .val (.long zs), .second, .val (.ref b39), .unset, .unset, .unset] [(.int vf), (.int vl)]))
  by_cases hc75 : vl = vf
  ·
    refine own_go (fun t k => XS.icmpNo A68.here hx rfl (hb hby at_139) rfl (teq hc75).2 k) ?_
    show own_Go _ _ _ _ (T67.setTop (mkF m 142 #[.val (.int p0), .val (.int p1), .val (.int p2), .val (.long q3), .second, .val (.int p4), .val (.int vf), .val (.int vs), .val (.int vl), .val (.long vu), .second, .val (.double (FP.i2d (p4 &&& (1023 : Int32)))), .second, .val (.double (FP.i2d (((p4.toUInt32 >>> ((10 : Int32) &&& 31).toUInt32).toInt32) &&& (1023 : Int32)))), .second, .val (.ref b9), .val (.long zs), .second, .val (.ref b39), .unset, .unset, .unset] []))
    refine own_go (fun t k => XS.lload A68.here hx rfl (hb hby at_142) rfl k) ?_
    show own_Go _ _ _ _ (T67.setTop (mkF m 144 #[.val (.int p0), .val (.int p1), .val (.int p2), .val (.long q3), .second, .val (.int p4), .val (.int vf), .val (.int vs), .val (.int vl), .val (.long vu), .second, .val (.double (FP.i2d (p4 &&& (1023 : Int32)))), .second, .val (.double (FP.i2d (((p4.toUInt32 >>> ((10 : Int32) &&& 31).toUInt32).toInt32) &&& (1023 : Int32)))), .second, .val (.ref b9), .val (.long zs), .second, .val (.ref b39), .unset, .unset, .unset] [(.long zs)]))
    refine own_go (fun t k => XS.lconst A68.here hx rfl (hb hby at_144) k) ?_
    show own_Go _ _ _ _ (T67.setTop (mkF m 145 #[.val (.int p0), .val (.int p1), .val (.int p2), .val (.long q3), .second, .val (.int p4), .val (.int vf), .val (.int vs), .val (.int vl), .val (.long vu), .second, .val (.double (FP.i2d (p4 &&& (1023 : Int32)))), .second, .val (.double (FP.i2d (((p4.toUInt32 >>> ((10 : Int32) &&& 31).toUInt32).toInt32) &&& (1023 : Int32)))), .second, .val (.ref b9), .val (.long zs), .second, .val (.ref b39), .unset, .unset, .unset] [(.long (1 : Int64)), (.long zs)]))
    refine own_go (fun t k => XS.lcmp A68.here hx rfl (hb hby at_145) rfl k) ?_
    show own_Go _ _ _ _ (T67.setTop (mkF m 146 #[.val (.int p0), .val (.int p1), .val (.int p2), .val (.long q3), .second, .val (.int p4), .val (.int vf), .val (.int vs), .val (.int vl), .val (.long vu), .second, .val (.double (FP.i2d (p4 &&& (1023 : Int32)))), .second, .val (.double (FP.i2d (((p4.toUInt32 >>> ((10 : Int32) &&& 31).toUInt32).toInt32) &&& (1023 : Int32)))), .second, .val (.ref b9), .val (.long zs), .second, .val (.ref b39), .unset, .unset, .unset] [(.int (lcmpW zs (1 : Int64)))]))
    have hc76 : (lcmpW zs (1 : Int64)) = (0 : Int32) := own_lc0 (by rw [own_J1]; have := congrArg Int32.toInt hc75; omega)
    refine own_go (fun t k => XS.ifNo A68.here hx rfl (hb hby at_146) rfl ((if0 _ _).trans (teq hc76).2) k) ?_
    show own_Go _ _ _ _ (T67.setTop (mkF m 149 #[.val (.int p0), .val (.int p1), .val (.int p2), .val (.long q3), .second, .val (.int p4), .val (.int vf), .val (.int vs), .val (.int vl), .val (.long vu), .second, .val (.double (FP.i2d (p4 &&& (1023 : Int32)))), .second, .val (.double (FP.i2d (((p4.toUInt32 >>> ((10 : Int32) &&& 31).toUInt32).toInt32) &&& (1023 : Int32)))), .second, .val (.ref b9), .val (.long zs), .second, .val (.ref b39), .unset, .unset, .unset] []))
    refine own_go (fun t k => XS.iconst A68.here hx rfl (hb hby at_149) k) ?_
    show own_Go _ _ _ _ (T67.setTop (mkF m 150 #[.val (.int p0), .val (.int p1), .val (.int p2), .val (.long q3), .second, .val (.int p4), .val (.int vf), .val (.int vs), .val (.int vl), .val (.long vu), .second, .val (.double (FP.i2d (p4 &&& (1023 : Int32)))), .second, .val (.double (FP.i2d (((p4.toUInt32 >>> ((10 : Int32) &&& 31).toUInt32).toInt32) &&& (1023 : Int32)))), .second, .val (.ref b9), .val (.long zs), .second, .val (.ref b39), .unset, .unset, .unset] [(.int (1 : Int32))]))
    refine own_go (fun t k => XS.goto A68.here hx rfl (pc0 := 150) (pc' := 154) rfl (hb hby at_150) (by decide) (by decide) k) ?_
    show own_Go _ _ _ _ (T67.setTop (mkF m 154 #[.val (.int p0), .val (.int p1), .val (.int p2), .val (.long q3), .second, .val (.int p4), .val (.int vf), .val (.int vs), .val (.int vl), .val (.long vu), .second, .val (.double (FP.i2d (p4 &&& (1023 : Int32)))), .second, .val (.double (FP.i2d (((p4.toUInt32 >>> ((10 : Int32) &&& 31).toUInt32).toInt32) &&& (1023 : Int32)))), .second, .val (.ref b9), .val (.long zs), .second, .val (.ref b39), .unset, .unset, .unset] [(.int (1 : Int32))]))
    refine own_retN A68 hx (t := .boolean) hret (by simp) hlk (by decide) (by decide) (hb hby at_154) ?_
    exact ⟨rfl, trivial⟩
  ·
    refine own_go (fun t k => XS.icmpYes A68.here hx rfl (pc0 := 139) (pc' := 155) rfl (hb hby at_139) rfl (feq hc75).2 (by decide) (by decide) k) ?_
    show own_Go _ _ _ _ (T67.setTop (mkF m 155 #[.val (.int p0), .val (.int p1), .val (.int p2), .val (.long q3), .second, .val (.int p4), .val (.int vf), .val (.int vs), .val (.int vl), .val (.long vu), .second, .val (.double (FP.i2d (p4 &&& (1023 : Int32)))), .second, .val (.double (FP.i2d (((p4.toUInt32 >>> ((10 : Int32) &&& 31).toUInt32).toInt32) &&& (1023 : Int32)))), .second, .val (.ref b9), .val (.long zs), .second, .val (.ref b39), .unset, .unset, .unset] []))
    refine own_go (fun t k => XS.iload A68.here hx rfl (hb hby at_155) rfl k) ?_
    show own_Go _ _ _ _ (T67.setTop (mkF m 157 #[.val (.int p0), .val (.int p1), .val (.int p2), .val (.long q3), .second, .val (.int p4), .val (.int vf), .val (.int vs), .val (.int vl), .val (.long vu), .second, .val (.double (FP.i2d (p4 &&& (1023 : Int32)))), .second, .val (.double (FP.i2d (((p4.toUInt32 >>> ((10 : Int32) &&& 31).toUInt32).toInt32) &&& (1023 : Int32)))), .second, .val (.ref b9), .val (.long zs), .second, .val (.ref b39), .unset, .unset, .unset] [(.int vf)]))
    refine own_go (fun t k => XS.iloadN A68.here hx rfl (hb hby at_157) rfl k) ?_
    show own_Go _ _ _ _ (T67.setTop (mkF m 158 #[.val (.int p0), .val (.int p1), .val (.int p2), .val (.long q3), .second, .val (.int p4), .val (.int vf), .val (.int vs), .val (.int vl), .val (.long vu), .second, .val (.double (FP.i2d (p4 &&& (1023 : Int32)))), .second, .val (.double (FP.i2d (((p4.toUInt32 >>> ((10 : Int32) &&& 31).toUInt32).toInt32) &&& (1023 : Int32)))), .second, .val (.ref b9), .val (.long zs), .second, .val (.ref b39), .unset, .unset, .unset] [(.int p2), (.int vf)]))
    refine own_ldcI A68 hx hZ hown (hw _ (List.mem_of_getElem? (i := 0) rfl)) rfl (hb hby at_158) ?_
    show own_Go _ _ _ _ (T67.setTop (mkF m 160 #[.val (.int p0), .val (.int p1), .val (.int p2), .val (.long q3), .second, .val (.int p4), .val (.int vf), .val (.int vs), .val (.int vl), .val (.long vu), .second, .val (.double (FP.i2d (p4 &&& (1023 : Int32)))), .second, .val (.double (FP.i2d (((p4.toUInt32 >>> ((10 : Int32) &&& 31).toUInt32).toInt32) &&& (1023 : Int32)))), .second, .val (.ref b9), .val (.long zs), .second, .val (.ref b39), .unset, .unset, .unset] [(.int (2147483647 : Int32)), (.int p2), (.int vf)]))
    refine own_go (fun t k => XS.iand A68.here hx rfl (hb hby at_160) rfl k) ?_
    show own_Go _ _ _ _ (T67.setTop (mkF m 161 #[.val (.int p0), .val (.int p1), .val (.int p2), .val (.long q3), .second, .val (.int p4), .val (.int vf), .val (.int vs), .val (.int vl), .val (.long vu), .second, .val (.double (FP.i2d (p4 &&& (1023 : Int32)))), .second, .val (.double (FP.i2d (((p4.toUInt32 >>> ((10 : Int32) &&& 31).toUInt32).toInt32) &&& (1023 : Int32)))), .second, .val (.ref b9), .val (.long zs), .second, .val (.ref b39), .unset, .unset, .unset] [(.int (p2 &&& (2147483647 : Int32))), (.int vf)]))
    refine own_go (fun t k => XS.iload A68.here hx rfl (hb hby at_161) rfl k) ?_
    show own_Go _ _ _ _ (T67.setTop (mkF m 163 #[.val (.int p0), .val (.int p1), .val (.int p2), .val (.long q3), .second, .val (.int p4), .val (.int vf), .val (.int vs), .val (.int vl), .val (.long vu), .second, .val (.double (FP.i2d (p4 &&& (1023 : Int32)))), .second, .val (.double (FP.i2d (((p4.toUInt32 >>> ((10 : Int32) &&& 31).toUInt32).toInt32) &&& (1023 : Int32)))), .second, .val (.ref b9), .val (.long zs), .second, .val (.ref b39), .unset, .unset, .unset] [(.int vl), (.int (p2 &&& (2147483647 : Int32))), (.int vf)]))
    refine own_go (fun t k => XS.iload A68.here hx rfl (hb hby at_163) rfl k) ?_
    show own_Go _ _ _ _ (T67.setTop (mkF m 165 #[.val (.int p0), .val (.int p1), .val (.int p2), .val (.long q3), .second, .val (.int p4), .val (.int vf), .val (.int vs), .val (.int vl), .val (.long vu), .second, .val (.double (FP.i2d (p4 &&& (1023 : Int32)))), .second, .val (.double (FP.i2d (((p4.toUInt32 >>> ((10 : Int32) &&& 31).toUInt32).toInt32) &&& (1023 : Int32)))), .second, .val (.ref b9), .val (.long zs), .second, .val (.ref b39), .unset, .unset, .unset] [(.int vf), (.int vl), (.int (p2 &&& (2147483647 : Int32))), (.int vf)]))
    refine own_go (fun t k => XS.isub A68.here hx rfl (hb hby at_165) rfl k) ?_
    show own_Go _ _ _ _ (T67.setTop (mkF m 166 #[.val (.int p0), .val (.int p1), .val (.int p2), .val (.long q3), .second, .val (.int p4), .val (.int vf), .val (.int vs), .val (.int vl), .val (.long vu), .second, .val (.double (FP.i2d (p4 &&& (1023 : Int32)))), .second, .val (.double (FP.i2d (((p4.toUInt32 >>> ((10 : Int32) &&& 31).toUInt32).toInt32) &&& (1023 : Int32)))), .second, .val (.ref b9), .val (.long zs), .second, .val (.ref b39), .unset, .unset, .unset] [(.int (vl - vf)), (.int (p2 &&& (2147483647 : Int32))), (.int vf)]))
    have hne : ¬ vl.toInt = vf.toInt := fun z => hc75 (Int32.toInt_inj.mp z)
    have hd := own_diff vl vf (by omega) (by omega)
    generalize e_vd : (vl - vf) = vd at hd ⊢
    have hr_vd := rng32 vd
    show own_Go _ _ _ _ (T67.setTop (mkF m 166 #[.val (.int p0), .val (.int p1), .val (.int p2), .val (.long q3), .second, .val (.int p4), .val (.int vf), .val (.int vs), .val (.int vl), .val (.long vu), .second, .val (.double (FP.i2d (p4 &&& (1023 : Int32)))), .second, .val (.double (FP.i2d (((p4.toUInt32 >>> ((10 : Int32) &&& 31).toUInt32).toInt32) &&& (1023 : Int32)))), .second, .val (.ref b9), .val (.long zs), .second, .val (.ref b39), .unset, .unset, .unset] [(.int vd), (.int (p2 &&& (2147483647 : Int32))), (.int vf)]))
    refine own_go (fun t k => own_irem A68.here hx rfl (hb hby at_166) rfl (own_ne0 (by omega)) k) ?_
    show own_Go _ _ _ _ (T67.setTop (mkF m 167 #[.val (.int p0), .val (.int p1), .val (.int p2), .val (.long q3), .second, .val (.int p4), .val (.int vf), .val (.int vs), .val (.int vl), .val (.long vu), .second, .val (.double (FP.i2d (p4 &&& (1023 : Int32)))), .second, .val (.double (FP.i2d (((p4.toUInt32 >>> ((10 : Int32) &&& 31).toUInt32).toInt32) &&& (1023 : Int32)))), .second, .val (.ref b9), .val (.long zs), .second, .val (.ref b39), .unset, .unset, .unset] [(.int ((p2 &&& (2147483647 : Int32)) % vd)), (.int vf)]))
    refine own_go (fun t k => XS.iadd A68.here hx rfl (hb hby at_167) rfl k) ?_
    show own_Go _ _ _ _ (T67.setTop (mkF m 168 #[.val (.int p0), .val (.int p1), .val (.int p2), .val (.long q3), .second, .val (.int p4), .val (.int vf), .val (.int vs), .val (.int vl), .val (.long vu), .second, .val (.double (FP.i2d (p4 &&& (1023 : Int32)))), .second, .val (.double (FP.i2d (((p4.toUInt32 >>> ((10 : Int32) &&& 31).toUInt32).toInt32) &&& (1023 : Int32)))), .second, .val (.ref b9), .val (.long zs), .second, .val (.ref b39), .unset, .unset, .unset] [(.int (vf + ((p2 &&& (2147483647 : Int32)) % vd)))]))
    have hm := own_plus vf vd p2 (by omega) (by omega) (by have := rng32 vl; omega)
    generalize e_vm : (vf + ((p2 &&& (2147483647 : Int32)) % vd)) = vm at hm ⊢
    have hr_vm := rng32 vm
    show own_Go _ _ _ _ (T67.setTop (mkF m 168 #[.val (.int p0), .val (.int p1), .val (.int p2), .val (.long q3), .second, .val (.int p4), .val (.int vf), .val (.int vs), .val (.int vl), .val (.long vu), .second, .val (.double (FP.i2d (p4 &&& (1023 : Int32)))), .second, .val (.double (FP.i2d (((p4.toUInt32 >>> ((10 : Int32) &&& 31).toUInt32).toInt32) &&& (1023 : Int32)))), .second, .val (.ref b9), .val (.long zs), .second, .val (.ref b39), .unset, .unset, .unset] [(.int vm)]))
    refine own_go (fun t k => XS.istore A68.here hx rfl (hb hby at_168) rfl (l' := #[.val (.int p0), .val (.int p1), .val (.int p2), .val (.long q3), .second, .val (.int p4), .val (.int vf), .val (.int vs), .val (.int vl), .val (.long vu), .second, .val (.double (FP.i2d (p4 &&& (1023 : Int32)))), .second, .val (.double (FP.i2d (((p4.toUInt32 >>> ((10 : Int32) &&& 31).toUInt32).toInt32) &&& (1023 : Int32)))), .second, .val (.ref b9), .val (.long zs), .second, .val (.ref b39), .val (.int vm), .unset, .unset]) rfl k) ?_
    show own_Go _ _ _ _ (T67.setTop (mkF m 170 #[.val (.int p0), .val (.int p1), .val (.int p2), .val (.long q3), .second, .val (.int p4), .val (.int vf), .val (.int vs), .val (.int vl), .val (.long vu), .second, .val (.double (FP.i2d (p4 &&& (1023 : Int32)))), .second, .val (.double (FP.i2d (((p4.toUInt32 >>> ((10 : Int32) &&& 31).toUInt32).toInt32) &&& (1023 : Int32)))), .second, .val (.ref b9), .val (.long zs), .second, .val (.ref b39), .val (.int vm), .unset, .unset] []))
    refine own_newO A68 hx hZ hown (hw _ (List.mem_of_getElem? (i := 5) rfl)) (hw _ (List.mem_of_getElem? (i := 6) rfl)) (hw _ (List.mem_of_getElem? (i := 7) rfl)) rfl (hb hby at_170) (by decide) (by decide) (fun T77 h79 b80 ha_b80 A78 E81 X82 D83 => ?_)
    have ne_b9_b80 : b9 ≠ b80 := Nat.ne_of_lt (by rw [ha_b80]; exact E63.lt)
    have ne_b39_b80 : b39 ≠ b80 := Nat.ne_of_lt (by rw [ha_b80]; exact E66.lt)
    have g_b80 : n0 ≤ b80 := by rw [ha_b80]; exact Z62
    have O84 : Old Z n0 h79 := O61.ext E81
    have Z85 : n0 ≤ h79.size := Nat.le_trans Z62 E81.1
    have E86 : Exa Z h79 b9 "com/example/gavelwright/gavelwright/model/Outcome$Holding" := E63.ext E81
    have F87 : Fld Z h79 b9 "com/example/gavelwright/gavelwright/model/Outcome$Holding" "first" "I" (.int vf) := F64.ext E81
    have F88 : Fld Z h79 b9 "com/example/gavelwright/gavelwright/model/Outcome$Holding" "last" "I" (.int vl) := F65.ext E81
    have E89 : Exa Z h79 b39 "com/example/gavelwright/gavelwright/model/Outcome$Holding" := E66.ext E81
    have F90 : Fld Z h79 b39 "com/example/gavelwright/gavelwright/model/Outcome$Holding" "first" "I" (.int vl) := F59.ext E81
    have F91 : Fld Z h79 b39 "com/example/gavelwright/gavelwright/model/Outcome$Holding" "last" "I" (.int vl) := F60.ext E81
    have F92 : Fld Z h79 b80 "com/example/gavelwright/gavelwright/model/Outcome$Holding" "first" "I" (.int (0 : Int32)) := D83 (Or.inr (hw _ (List.mem_of_getElem? (i := 20) rfl))) (ty := .int) (by decide)
    have F93 : Fld Z h79 b80 "com/example/gavelwright/gavelwright/model/Outcome$Holding" "last" "I" (.int (0 : Int32)) := D83 (Or.inr (hw _ (List.mem_of_getElem? (i := 22) rfl))) (ty := .int) (by decide)
    have F94 : Fld Z h79 b80 "com/example/gavelwright/gavelwright/model/Outcome$Holding" "units" "J" (.long (0 : Int64)) := D83 (Or.inr (hw _ (List.mem_of_getElem? (i := 24) rfl))) (ty := .long) (by decide)
    have F95 : Fld Z h79 b80 "com/example/gavelwright/gavelwright/model/Outcome$Holding" "value" "D" (.double 0) := D83 (Or.inr (hw _ (List.mem_of_getElem? (i := 26) rfl))) (ty := .double) (by decide)
    have F96 : Fld Z h79 b80 "com/example/gavelwright/gavelwright/model/Outcome$Holding" "payment" "D" (.double 0) := D83 (Or.inr (hw _ (List.mem_of_getElem? (i := 28) rfl))) (ty := .double) (by decide)
    show own_Go _ _ _ _ (T77.setTop (mkF m 173 #[.val (.int p0), .val (.int p1), .val (.int p2), .val (.long q3), .second, .val (.int p4), .val (.int vf), .val (.int vs), .val (.int vl), .val (.long vu), .second, .val (.double (FP.i2d (p4 &&& (1023 : Int32)))), .second, .val (.double (FP.i2d (((p4.toUInt32 >>> ((10 : Int32) &&& 31).toUInt32).toInt32) &&& (1023 : Int32)))), .second, .val (.ref b9), .val (.long zs), .second, .val (.ref b39), .val (.int vm), .unset, .unset] [(.ref b80)]))
    refine own_go (fun t k => XS.dup A78.here hx rfl (hb hby at_173) rfl rfl k) ?_
    show own_Go _ _ _ _ (T77.setTop (mkF m 174 #[.val (.int p0), .val (.int p1), .val (.int p2), .val (.long q3), .second, .val (.int p4), .val (.int vf), .val (.int vs), .val (.int vl), .val (.long vu), .second, .val (.double (FP.i2d (p4 &&& (1023 : Int32)))), .second, .val (.double (FP.i2d (((p4.toUInt32 >>> ((10 : Int32) &&& 31).toUInt32).toInt32) &&& (1023 : Int32)))), .second, .val (.ref b9), .val (.long zs), .second, .val (.ref b39), .val (.int vm), .unset, .unset] [(.ref b80), (.ref b80)]))
    refine own_go (fun t k => XS.iload A78.here hx rfl (hb hby at_174) rfl k) ?_
    show own_Go _ _ _ _ (T77.setTop (mkF m 176 #[.val (.int p0), .val (.int p1), .val (.int p2), .val (.long q3), .second, .val (.int p4), .val (.int vf), .val (.int vs), .val (.int vl), .val (.long vu), .second, .val (.double (FP.i2d (p4 &&& (1023 : Int32)))), .second, .val (.double (FP.i2d (((p4.toUInt32 >>> ((10 : Int32) &&& 31).toUInt32).toInt32) &&& (1023 : Int32)))), .second, .val (.ref b9), .val (.long zs), .second, .val (.ref b39), .val (.int vm), .unset, .unset] [(.int vf), (.ref b80), (.ref b80)]))
    refine own_go (fun t k => XS.iload A78.here hx rfl (hb hby at_176) rfl k) ?_
    show own_Go _ _ _ _ (T77.setTop (mkF m 178 #[.val (.int p0), .val (.int p1), .val (.int p2), .val (.long q3), .second, .val (.int p4), .val (.int vf), .val (.int vs), .val (.int vl), .val (.long vu), .second, .val (.double (FP.i2d (p4 &&& (1023 : Int32)))), .second, .val (.double (FP.i2d (((p4.toUInt32 >>> ((10 : Int32) &&& 31).toUInt32).toInt32) &&& (1023 : Int32)))), .second, .val (.ref b9), .val (.long zs), .second, .val (.ref b39), .val (.int vm), .unset, .unset] [(.int vm), (.int vf), (.ref b80), (.ref b80)]))
    refine own_go (fun t k => XS.lload A78.here hx rfl (hb hby at_178) rfl k) ?_
    show own_Go _ _ _ _ (T77.setTop (mkF m 180 #[.val (.int p0), .val (.int p1), .val (.int p2), .val (.long q3), .second, .val (.int p4), .val (.int vf), .val (.int vs), .val (.int vl), .val (.long vu), .second, .val (.double (FP.i2d (p4 &&& (1023 : Int32)))), .second, .val (.double (FP.i2d (((p4.toUInt32 >>> ((10 : Int32) &&& 31).toUInt32).toInt32) &&& (1023 : Int32)))), .second, .val (.ref b9), .val (.long zs), .second, .val (.ref b39), .val (.int vm), .unset, .unset] [(.long vu), (.int vm), (.int vf), (.ref b80), (.ref b80)]))
    refine own_go (fun t k => XS.dload A78.here hx rfl (hb hby at_180) rfl k) ?_
    show own_Go _ _ _ _ (T77.setTop (mkF m 182 #[.val (.int p0), .val (.int p1), .val (.int p2), .val (.long q3), .second, .val (.int p4), .val (.int vf), .val (.int vs), .val (.int vl), .val (.long vu), .second, .val (.double (FP.i2d (p4 &&& (1023 : Int32)))), .second, .val (.double (FP.i2d (((p4.toUInt32 >>> ((10 : Int32) &&& 31).toUInt32).toInt32) &&& (1023 : Int32)))), .second, .val (.ref b9), .val (.long zs), .second, .val (.ref b39), .val (.int vm), .unset, .unset] [(.double (FP.i2d (p4 &&& (1023 : Int32)))), (.long vu), (.int vm), (.int vf), (.ref b80), (.ref b80)]))
    refine own_go (fun t k => XS.dload A78.here hx rfl (hb hby at_182) rfl k) ?_
    show own_Go _ _ _ _ (T77.setTop (mkF m 184 #[.val (.int p0), .val (.int p1), .val (.int p2), .val (.long q3), .second, .val (.int p4), .val (.int vf), .val (.int vs), .val (.int vl), .val (.long vu), .second, .val (.double (FP.i2d (p4 &&& (1023 : Int32)))), .second, .val (.double (FP.i2d (((p4.toUInt32 >>> ((10 : Int32) &&& 31).toUInt32).toInt32) &&& (1023 : Int32)))), .second, .val (.ref b9), .val (.long zs), .second, .val (.ref b39), .val (.int vm), .unset, .unset] [(.double (FP.i2d (((p4.toUInt32 >>> ((10 : Int32) &&& 31).toUInt32).toInt32) &&& (1023 : Int32)))), (.double (FP.i2d (p4 &&& (1023 : Int32)))), (.long vu), (.int vm), (.int vf), (.ref b80), (.ref b80)]))
    refine own_callI A78 hx hZ (y := (⟨"com/example/gavelwright/gavelwright/model/Outcome$Holding", "<init>", "(IIJDD)V"⟩ : MethodName)) rfl hown (hw _ (List.mem_of_getElem? (i := 8) rfl)) (hw _ (List.mem_of_getElem? (i := 9) rfl)) (hw _ (List.mem_of_getElem? (i := 7) rfl)) (hw _ (List.mem_of_getElem? (i := 10) rfl)) (by decide) (b := b80) (argsL := [(.int vf), (.int vm), (.long vu), (.double (FP.i2d (p4 &&& (1023 : Int32)))), (.double (FP.i2d (((p4.toUInt32 >>> ((10 : Int32) &&& 31).toUInt32).toInt32) &&& (1023 : Int32))))]) (rest := [(.ref b80)]) (rm2 l Z a0 hw b80 vf vm vu (FP.i2d (p4 &&& (1023 : Int32))) (FP.i2d (((p4.toUInt32 >>> ((10 : Int32) &&& 31).toUInt32).toInt32) &&& (1023 : Int32))) h79 n0 X82 g_b80 F92 F93 F94 F95 F96 (own_nl (by rw [own_I1]; omega)) (own_nl (by omega)) (own_lcge (by rw [own_J1]; omega))) 1 (by decide) (by decide) rfl (by rw [hml]; rfl) (lenOf pd__IIJDD_V rfl) rfl (by show 2 * 0 + _ ≤ _; exact Nat.le_of_eq rfl) (hb hby at_184) (by decide) (by decide) (fun v100 T97 h99 A98 hQ101 => ?_)
    obtain ⟨rfl, K102, F103, F104⟩ := hQ101
    have O105 : Old Z n0 h99 := O84.keep K102 (allS g_b80 all0)
    have Z106 : n0 ≤ h99.size := Nat.le_trans Z85 K102.1
    have E107 : Exa Z h99 b9 "com/example/gavelwright/gavelwright/model/Outcome$Holding" := E86.keep K102
    have F108 : Fld Z h99 b9 "com/example/gavelwright/gavelwright/model/Outcome$Holding" "first" "I" (.int vf) := F87.keep K102 (ninS ne_b9_b80 nin0)
    have F109 : Fld Z h99 b9 "com/example/gavelwright/gavelwright/model/Outcome$Holding" "last" "I" (.int vl) := F88.keep K102 (ninS ne_b9_b80 nin0)
    have E110 : Exa Z h99 b39 "com/example/gavelwright/gavelwright/model/Outcome$Holding" := E89.keep K102
    have F111 : Fld Z h99 b39 "com/example/gavelwright/gavelwright/model/Outcome$Holding" "first" "I" (.int vl) := F90.keep K102 (ninS ne_b39_b80 nin0)
    have F112 : Fld Z h99 b39 "com/example/gavelwright/gavelwright/model/Outcome$Holding" "last" "I" (.int vl) := F91.keep K102 (ninS ne_b39_b80 nin0)
    have E113 : Exa Z h99 b80 "com/example/gavelwright/gavelwright/model/Outcome$Holding" := X82.keep K102
    show own_Go _ _ _ _ (T97.setTop (mkF m 187 #[.val (.int p0), .val (.int p1), .val (.int p2), .val (.long q3), .second, .val (.int p4), .val (.int vf), .val (.int vs), .val (.int vl), .val (.long vu), .second, .val (.double (FP.i2d (p4 &&& (1023 : Int32)))), .second, .val (.double (FP.i2d (((p4.toUInt32 >>> ((10 : Int32) &&& 31).toUInt32).toInt32) &&& (1023 : Int32)))), .second, .val (.ref b9), .val (.long zs), .second, .val (.ref b39), .val (.int vm), .unset, .unset] [(.ref b80)]))
    refine own_go (fun t k => XS.astore A98.here hx rfl (hb hby at_187) rfl rfl (l' := #[.val (.int p0), .val (.int p1), .val (.int p2), .val (.long q3), .second, .val (.int p4), .val (.int vf), .val (.int vs), .val (.int vl), .val (.long vu), .second, .val (.double (FP.i2d (p4 &&& (1023 : Int32)))), .second, .val (.double (FP.i2d (((p4.toUInt32 >>> ((10 : Int32) &&& 31).toUInt32).toInt32) &&& (1023 : Int32)))), .second, .val (.ref b9), .val (.long zs), .second, .val (.ref b39), .val (.int vm), .val (.ref b80), .unset]) rfl k) ?_
    show own_Go _ _ _ _ (T97.setTop (mkF m 189 #[.val (.int p0), .val (.int p1), .val (.int p2), .val (.long q3), .second, .val (.int p4), .val (.int vf), .val (.int vs), .val (.int vl), .val (.long vu), .second, .val (.double (FP.i2d (p4 &&& (1023 : Int32)))), .second, .val (.double (FP.i2d (((p4.toUInt32 >>> ((10 : Int32) &&& 31).toUInt32).toInt32) &&& (1023 : Int32)))), .second, .val (.ref b9), .val (.long zs), .second, .val (.ref b39), .val (.int vm), .val (.ref b80), .unset] []))
    refine own_newO A98 hx hZ hown (hw _ (List.mem_of_getElem? (i := 5) rfl)) (hw _ (List.mem_of_getElem? (i := 6) rfl)) (hw _ (List.mem_of_getElem? (i := 7) rfl)) rfl (hb hby at_189) (by decide) (by decide) (fun T114 h116 b117 ha_b117 A115 E118 X119 D120 => ?_)
    have ne_b9_b117 : b9 ≠ b117 := Nat.ne_of_lt (by rw [ha_b117]; exact E107.lt)
    have ne_b39_b117 : b39 ≠ b117 := Nat.ne_of_lt (by rw [ha_b117]; exact E110.lt)
    have ne_b80_b117 : b80 ≠ b117 := Nat.ne_of_lt (by rw [ha_b117]; exact E113.lt)
    have g_b117 : n0 ≤ b117 := by rw [ha_b117]; exact Z106
    have O121 : Old Z n0 h116 := O105.ext E118
    have Z122 : n0 ≤ h116.size := Nat.le_trans Z106 E118.1
    have E123 : Exa Z h116 b9 "com/example/gavelwright/gavelwright/model/Outcome$Holding" := E107.ext E118
    have F124 : Fld Z h116 b9 "com/example/gavelwright/gavelwright/model/Outcome$Holding" "first" "I" (.int vf) := F108.ext E118
    have F125 : Fld Z h116 b9 "com/example/gavelwright/gavelwright/model/Outcome$Holding" "last" "I" (.int vl) := F109.ext E118
    have E126 : Exa Z h116 b39 "com/example/gavelwright/gavelwright/model/Outcome$Holding" := E110.ext E118
    have F127 : Fld Z h116 b39 "com/example/gavelwright/gavelwright/model/Outcome$Holding" "first" "I" (.int vl) := F111.ext E118
    have F128 : Fld Z h116 b39 "com/example/gavelwright/gavelwright/model/Outcome$Holding" "last" "I" (.int vl) := F112.ext E118
    have E129 : Exa Z h116 b80 "com/example/gavelwright/gavelwright/model/Outcome$Holding" := E113.ext E118
    have F130 : Fld Z h116 b80 "com/example/gavelwright/gavelwright/model/Outcome$Holding" "first" "I" (.int vf) := F103.ext E118
    have F131 : Fld Z h116 b80 "com/example/gavelwright/gavelwright/model/Outcome$Holding" "last" "I" (.int vm) := F104.ext E118
    have F132 : Fld Z h116 b117 "com/example/gavelwright/gavelwright/model/Outcome$Holding" "first" "I" (.int (0 : Int32)) := D120 (Or.inr (hw _ (List.mem_of_getElem? (i := 20) rfl))) (ty := .int) (by decide)
    have F133 : Fld Z h116 b117 "com/example/gavelwright/gavelwright/model/Outcome$Holding" "last" "I" (.int (0 : Int32)) := D120 (Or.inr (hw _ (List.mem_of_getElem? (i := 22) rfl))) (ty := .int) (by decide)
    have F134 : Fld Z h116 b117 "com/example/gavelwright/gavelwright/model/Outcome$Holding" "units" "J" (.long (0 : Int64)) := D120 (Or.inr (hw _ (List.mem_of_getElem? (i := 24) rfl))) (ty := .long) (by decide)
    have F135 : Fld Z h116 b117 "com/example/gavelwright/gavelwright/model/Outcome$Holding" "value" "D" (.double 0) := D120 (Or.inr (hw _ (List.mem_of_getElem? (i := 26) rfl))) (ty := .double) (by decide)
    have F136 : Fld Z h116 b117 "com/example/gavelwright/gavelwright/model/Outcome$Holding" "payment" "D" (.double 0) := D120 (Or.inr (hw _ (List.mem_of_getElem? (i := 28) rfl))) (ty := .double) (by decide)
    show own_Go _ _ _ _ (T114.setTop (mkF m 192 #[.val (.int p0), .val (.int p1), .val (.int p2), .val (.long q3), .second, .val (.int p4), .val (.int vf), .val (.int vs), .val (.int vl), .val (.long vu), .second, .val (.double (FP.i2d (p4 &&& (1023 : Int32)))), .second, .val (.double (FP.i2d (((p4.toUInt32 >>> ((10 : Int32) &&& 31).toUInt32).toInt32) &&& (1023 : Int32)))), .second, .val (.ref b9), .val (.long zs), .second, .val (.ref b39), .val (.int vm), .val (.ref b80), .unset] [(.ref b117)]))
    refine own_go (fun t k => XS.dup A115.here hx rfl (hb hby at_192) rfl rfl k) ?_
    show own_Go _ _ _ _ (T114.setTop (mkF m 193 #[.val (.int p0), .val (.int p1), .val (.int p2), .val (.long q3), .second, .val (.int p4), .val (.int vf), .val (.int vs), .val (.int vl), .val (.long vu), .second, .val (.double (FP.i2d (p4 &&& (1023 : Int32)))), .second, .val (.double (FP.i2d (((p4.toUInt32 >>> ((10 : Int32) &&& 31).toUInt32).toInt32) &&& (1023 : Int32)))), .second, .val (.ref b9), .val (.long zs), .second, .val (.ref b39), .val (.int vm), .val (.ref b80), .unset] [(.ref b117), (.ref b117)]))
    refine own_go (fun t k => XS.iload A115.here hx rfl (hb hby at_193) rfl k) ?_
    show own_Go _ _ _ _ (T114.setTop (mkF m 195 #[.val (.int p0), .val (.int p1), .val (.int p2), .val (.long q3), .second, .val (.int p4), .val (.int vf), .val (.int vs), .val (.int vl), .val (.long vu), .second, .val (.double (FP.i2d (p4 &&& (1023 : Int32)))), .second, .val (.double (FP.i2d (((p4.toUInt32 >>> ((10 : Int32) &&& 31).toUInt32).toInt32) &&& (1023 : Int32)))), .second, .val (.ref b9), .val (.long zs), .second, .val (.ref b39), .val (.int vm), .val (.ref b80), .unset] [(.int vm), (.ref b117), (.ref b117)]))
    refine own_go (fun t k => XS.iconst A115.here hx rfl (hb hby at_195) k) ?_
    show own_Go _ _ _ _ (T114.setTop (mkF m 196 #[.val (.int p0), .val (.int p1), .val (.int p2), .val (.long q3), .second, .val (.int p4), .val (.int vf), .val (.int vs), .val (.int vl), .val (.long vu), .second, .val (.double (FP.i2d (p4 &&& (1023 : Int32)))), .second, .val (.double (FP.i2d (((p4.toUInt32 >>> ((10 : Int32) &&& 31).toUInt32).toInt32) &&& (1023 : Int32)))), .second, .val (.ref b9), .val (.long zs), .second, .val (.ref b39), .val (.int vm), .val (.ref b80), .unset] [(.int (1 : Int32)), (.int vm), (.ref b117), (.ref b117)]))
    refine own_go (fun t k => XS.iadd A115.here hx rfl (hb hby at_196) rfl k) ?_
    show own_Go _ _ _ _ (T114.setTop (mkF m 197 #[.val (.int p0), .val (.int p1), .val (.int p2), .val (.long q3), .second, .val (.int p4), .val (.int vf), .val (.int vs), .val (.int vl), .val (.long vu), .second, .val (.double (FP.i2d (p4 &&& (1023 : Int32)))), .second, .val (.double (FP.i2d (((p4.toUInt32 >>> ((10 : Int32) &&& 31).toUInt32).toInt32) &&& (1023 : Int32)))), .second, .val (.ref b9), .val (.long zs), .second, .val (.ref b39), .val (.int vm), .val (.ref b80), .unset] [(.int (vm + (1 : Int32))), (.ref b117), (.ref b117)]))
    have hn1 := own_inc vm (by have := rng32 vl; omega)
    generalize e_vn : (vm + (1 : Int32)) = vn at hn1 ⊢
    have hr_vn := rng32 vn
    show own_Go _ _ _ _ (T114.setTop (mkF m 197 #[.val (.int p0), .val (.int p1), .val (.int p2), .val (.long q3), .second, .val (.int p4), .val (.int vf), .val (.int vs), .val (.int vl), .val (.long vu), .second, .val (.double (FP.i2d (p4 &&& (1023 : Int32)))), .second, .val (.double (FP.i2d (((p4.toUInt32 >>> ((10 : Int32) &&& 31).toUInt32).toInt32) &&& (1023 : Int32)))), .second, .val (.ref b9), .val (.long zs), .second, .val (.ref b39), .val (.int vm), .val (.ref b80), .unset] [(.int vn), (.ref b117), (.ref b117)]))
    refine own_go (fun t k => XS.iload A115.here hx rfl (hb hby at_197) rfl k) ?_
    show own_Go _ _ _ _ (T114.setTop (mkF m 199 #[.val (.int p0), .val (.int p1), .val (.int p2), .val (.long q3), .second, .val (.int p4), .val (.int vf), .val (.int vs), .val (.int vl), .val (.long vu), .second, .val (.double (FP.i2d (p4 &&& (1023 : Int32)))), .second, .val (.double (FP.i2d (((p4.toUInt32 >>> ((10 : Int32) &&& 31).toUInt32).toInt32) &&& (1023 : Int32)))), .second, .val (.ref b9), .val (.long zs), .second, .val (.ref b39), .val (.int vm), .val (.ref b80), .unset] [(.int vl), (.int vn), (.ref b117), (.ref b117)]))
    refine own_go (fun t k => XS.lload A115.here hx rfl (hb hby at_199) rfl k) ?_
    show own_Go _ _ _ _ (T114.setTop (mkF m 201 #[.val (.int p0), .val (.int p1), .val (.int p2), .val (.long q3), .second, .val (.int p4), .val (.int vf), .val (.int vs), .val (.int vl), .val (.long vu), .second, .val (.double (FP.i2d (p4 &&& (1023 : Int32)))), .second, .val (.double (FP.i2d (((p4.toUInt32 >>> ((10 : Int32) &&& 31).toUInt32).toInt32) &&& (1023 : Int32)))), .second, .val (.ref b9), .val (.long zs), .second, .val (.ref b39), .val (.int vm), .val (.ref b80), .unset] [(.long vu), (.int vl), (.int vn), (.ref b117), (.ref b117)]))
    refine own_go (fun t k => XS.dload A115.here hx rfl (hb hby at_201) rfl k) ?_
    show own_Go _ _ _ _ (T114.setTop (mkF m 203 #[.val (.int p0), .val (.int p1), .val (.int p2), .val (.long q3), .second, .val (.int p4), .val (.int vf), .val (.int vs), .val (.int vl), .val (.long vu), .second, .val (.double (FP.i2d (p4 &&& (1023 : Int32)))), .second, .val (.double (FP.i2d (((p4.toUInt32 >>> ((10 : Int32) &&& 31).toUInt32).toInt32) &&& (1023 : Int32)))), .second, .val (.ref b9), .val (.long zs), .second, .val (.ref b39), .val (.int vm), .val (.ref b80), .unset] [(.double (FP.i2d (p4 &&& (1023 : Int32)))), (.long vu), (.int vl), (.int vn), (.ref b117), (.ref b117)]))
    refine own_go (fun t k => XS.dload A115.here hx rfl (hb hby at_203) rfl k) ?_
    show own_Go _ _ _ _ (T114.setTop (mkF m 205 #[.val (.int p0), .val (.int p1), .val (.int p2), .val (.long q3), .second, .val (.int p4), .val (.int vf), .val (.int vs), .val (.int vl), .val (.long vu), .second, .val (.double (FP.i2d (p4 &&& (1023 : Int32)))), .second, .val (.double (FP.i2d (((p4.toUInt32 >>> ((10 : Int32) &&& 31).toUInt32).toInt32) &&& (1023 : Int32)))), .second, .val (.ref b9), .val (.long zs), .second, .val (.ref b39), .val (.int vm), .val (.ref b80), .unset] [(.double (FP.i2d (((p4.toUInt32 >>> ((10 : Int32) &&& 31).toUInt32).toInt32) &&& (1023 : Int32)))), (.double (FP.i2d (p4 &&& (1023 : Int32)))), (.long vu), (.int vl), (.int vn), (.ref b117), (.ref b117)]))
    refine own_callI A115 hx hZ (y := (⟨"com/example/gavelwright/gavelwright/model/Outcome$Holding", "<init>", "(IIJDD)V"⟩ : MethodName)) rfl hown (hw _ (List.mem_of_getElem? (i := 8) rfl)) (hw _ (List.mem_of_getElem? (i := 9) rfl)) (hw _ (List.mem_of_getElem? (i := 7) rfl)) (hw _ (List.mem_of_getElem? (i := 10) rfl)) (by decide) (b := b117) (argsL := [(.int vn), (.int vl), (.long vu), (.double (FP.i2d (p4 &&& (1023 : Int32)))), (.double (FP.i2d (((p4.toUInt32 >>> ((10 : Int32) &&& 31).toUInt32).toInt32) &&& (1023 : Int32))))]) (rest := [(.ref b117)]) (rm2 l Z a0 hw b117 vn vl vu (FP.i2d (p4 &&& (1023 : Int32))) (FP.i2d (((p4.toUInt32 >>> ((10 : Int32) &&& 31).toUInt32).toInt32) &&& (1023 : Int32))) h116 n0 X119 g_b117 F132 F133 F134 F135 F136 (own_nl (by rw [own_I1]; omega)) (own_nl (by omega)) (own_lcge (by rw [own_J1]; omega))) 1 (by decide) (by decide) rfl (by rw [hml]; rfl) (lenOf pd__IIJDD_V rfl) rfl (by show 2 * 0 + _ ≤ _; exact Nat.le_of_eq rfl) (hb hby at_205) (by decide) (by decide) (fun v140 T137 h139 A138 hQ141 => ?_)
    obtain ⟨rfl, K142, F143, F144⟩ := hQ141
    have O145 : Old Z n0 h139 := O121.keep K142 (allS g_b117 all0)
    have Z146 : n0 ≤ h139.size := Nat.le_trans Z122 K142.1
    have E147 : Exa Z h139 b9 "com/example/gavelwright/gavelwright/model/Outcome$Holding" := E123.keep K142
    have F148 : Fld Z h139 b9 "com/example/gavelwright/gavelwright/model/Outcome$Holding" "first" "I" (.int vf) := F124.keep K142 (ninS ne_b9_b117 nin0)
    have F149 : Fld Z h139 b9 "com/example/gavelwright/gavelwright/model/Outcome$Holding" "last" "I" (.int vl) := F125.keep K142 (ninS ne_b9_b117 nin0)
    have E150 : Exa Z h139 b39 "com/example/gavelwright/gavelwright/model/Outcome$Holding" := E126.keep K142
    have F151 : Fld Z h139 b39 "com/example/gavelwright/gavelwright/model/Outcome$Holding" "first" "I" (.int vl) := F127.keep K142 (ninS ne_b39_b117 nin0)
    have F152 : Fld Z h139 b39 "com/example/gavelwright/gavelwright/model/Outcome$Holding" "last" "I" (.int vl) := F128.keep K142 (ninS ne_b39_b117 nin0)
    have E153 : Exa Z h139 b80 "com/example/gavelwright/gavelwright/model/Outcome$Holding" := E129.keep K142
    have F154 : Fld Z h139 b80 "com/example/gavelwright/gavelwright/model/Outcome$Holding" "first" "I" (.int vf) := F130.keep K142 (ninS ne_b80_b117 nin0)
    have F155 : Fld Z h139 b80 "com/example/gavelwright/gavelwright/model/Outcome$Holding" "last" "I" (.int vm) := F131.keep K142 (ninS ne_b80_b117 nin0)
    have E156 : Exa Z h139 b117 "com/example/gavelwright/gavelwright/model/Outcome$Holding" := X119.keep K142
    show own_Go _ _ _ _ (T137.setTop (mkF m 208 #[.val (.int p0), .val (.int p1), .val (.int p2), .val (.long q3), .second, .val (.int p4), .val (.int vf), .val (.int vs), .val (.int vl), .val (.long vu), .second, .val (.double (FP.i2d (p4 &&& (1023 : Int32)))), .second, .val (.double (FP.i2d (((p4.toUInt32 >>> ((10 : Int32) &&& 31).toUInt32).toInt32) &&& (1023 : Int32)))), .second, .val (.ref b9), .val (.long zs), .second, .val (.ref b39), .val (.int vm), .val (.ref b80), .unset] [(.ref b117)]))
    refine own_go (fun t k => XS.astore A138.here hx rfl (hb hby at_208) rfl rfl (l' := #[.val (.int p0), .val (.int p1), .val (.int p2), .val (.long q3), .second, .val (.int p4), .val (.int vf), .val (.int vs), .val (.int vl), .val (.long vu), .second, .val (.double (FP.i2d (p4 &&& (1023 : Int32)))), .second, .val (.double (FP.i2d (((p4.toUInt32 >>> ((10 : Int32) &&& 31).toUInt32).toInt32) &&& (1023 : Int32)))), .second, .val (.ref b9), .val (.long zs), .second, .val (.ref b39), .val (.int vm), .val (.ref b80), .val (.ref b117)]) rfl k) ?_
    show own_Go _ _ _ _ (T137.setTop (mkF m 210 #[.val (.int p0), .val (.int p1), .val (.int p2), .val (.long q3), .second, .val (.int p4), .val (.int vf), .val (.int vs), .val (.int vl), .val (.long vu), .second, .val (.double (FP.i2d (p4 &&& (1023 : Int32)))), .second, .val (.double (FP.i2d (((p4.toUInt32 >>> ((10 : Int32) &&& 31).toUInt32).toInt32) &&& (1023 : Int32)))), .second, .val (.ref b9), .val (.long zs), .second, .val (.ref b39), .val (.int vm), .val (.ref b80), .val (.ref b117)] []))
    refine own_go (fun t k => XS.aload A138.here hx rfl (hb hby at_210) rfl rfl k) ?_
    show own_Go _ _ _ _ (T137.setTop (mkF m 212 #[.val (.int p0), .val (.int p1), .val (.int p2), .val (.long q3), .second, .val (.int p4), .val (.int vf), .val (.int vs), .val (.int vl), .val (.long vu), .second, .val (.double (FP.i2d (p4 &&& (1023 : Int32)))), .second, .val (.double (FP.i2d (((p4.toUInt32 >>> ((10 : Int32) &&& 31).toUInt32).toInt32) &&& (1023 : Int32)))), .second, .val (.ref b9), .val (.long zs), .second, .val (.ref b39), .val (.int vm), .val (.ref b80), .val (.ref b117)] [(.ref b80)]))
    refine own_callV A138 hx hZ (y := (⟨"com/example/gavelwright/gavelwright/model/Outcome$Holding", "slots", "()J"⟩ : MethodName)) (z := (⟨"com/example/gavelwright/gavelwright/model/Outcome$Holding", "slots", "()J"⟩ : MethodName)) hown (hw _ (List.mem_of_getElem? (i := 29) rfl)) (hw _ (List.mem_of_getElem? (i := 30) rfl)) (hw _ (List.mem_of_getElem? (i := 32) rfl)) (hw _ (List.mem_of_getElem? (i := 31) rfl)) (hw _ (List.mem_of_getElem? (i := 7) rfl)) (hw _ (List.mem_of_getElem? (i := 33) rfl)) (notFace_of_selects (args := #[]) (mvT hZ (hw _ (List.mem_of_getElem? (i := 32) rfl)))) (by decide) (b := b80) (argsL := []) (rest := []) E153 (rm5 l Z a0 hw b80 vm vf h139 n0 F155 F154) 0 (by decide) (by decide) rfl (by rw [hml]; rfl) (lenOf pd___J rfl) rfl (by show 2 * 0 + _ ≤ _; exact Nat.le_of_eq rfl) (hb hby at_212) (by decide) (by decide) (fun v160 T157 h159 A158 hQ161 => ?_)
    obtain ⟨rfl, rfl⟩ := hQ161
    show own_Go _ _ _ _ (T157.setTop (mkF m 215 #[.val (.int p0), .val (.int p1), .val (.int p2), .val (.long q3), .second, .val (.int p4), .val (.int vf), .val (.int vs), .val (.int vl), .val (.long vu), .second, .val (.double (FP.i2d (p4 &&& (1023 : Int32)))), .second, .val (.double (FP.i2d (((p4.toUInt32 >>> ((10 : Int32) &&& 31).toUInt32).toInt32) &&& (1023 : Int32)))), .second, .val (.ref b9), .val (.long zs), .second, .val (.ref b39), .val (.int vm), .val (.ref b80), .val (.ref b117)] [(.long (f5 vm vf))]))
    have h_za := own_slots vm vf
    generalize e_za : (f5 vm vf) = za at h_za ⊢
    show own_Go _ _ _ _ (T157.setTop (mkF m 215 #[.val (.int p0), .val (.int p1), .val (.int p2), .val (.long q3), .second, .val (.int p4), .val (.int vf), .val (.int vs), .val (.int vl), .val (.long vu), .second, .val (.double (FP.i2d (p4 &&& (1023 : Int32)))), .second, .val (.double (FP.i2d (((p4.toUInt32 >>> ((10 : Int32) &&& 31).toUInt32).toInt32) &&& (1023 : Int32)))), .second, .val (.ref b9), .val (.long zs), .second, .val (.ref b39), .val (.int vm), .val (.ref b80), .val (.ref b117)] [(.long za)]))
    refine own_go (fun t k => XS.aload A158.here hx rfl (hb hby at_215) rfl rfl k) ?_
    show own_Go _ _ _ _ (T157.setTop (mkF m 217 #[.val (.int p0), .val (.int p1), .val (.int p2), .val (.long q3), .second, .val (.int p4), .val (.int vf), .val (.int vs), .val (.int vl), .val (.long vu), .second, .val (.double (FP.i2d (p4 &&& (1023 : Int32)))), .second, .val (.double (FP.i2d (((p4.toUInt32 >>> ((10 : Int32) &&& 31).toUInt32).toInt32) &&& (1023 : Int32)))), .second, .val (.ref b9), .val (.long zs), .second, .val (.ref b39), .val (.int vm), .val (.ref b80), .val (.ref b117)] [(.ref b117), (.long za)]))
    refine own_callV A158 hx hZ (y := (⟨"com/example/gavelwright/gavelwright/model/Outcome$Holding", "slots", "()J"⟩ : MethodName)) (z := (⟨"com/example/gavelwright/gavelwright/model/Outcome$Holding", "slots", "()J"⟩ : MethodName)) hown (hw _ (List.mem_of_getElem? (i := 29) rfl)) (hw _ (List.mem_of_getElem? (i := 30) rfl)) (hw _ (List.mem_of_getElem? (i := 32) rfl)) (hw _ (List.mem_of_getElem? (i := 31) rfl)) (hw _ (List.mem_of_getElem? (i := 7) rfl)) (hw _ (List.mem_of_getElem? (i := 33) rfl)) (notFace_of_selects (args := #[]) (mvT hZ (hw _ (List.mem_of_getElem? (i := 32) rfl)))) (by decide) (b := b117) (argsL := []) (rest := [(.long za)]) E156 (rm5 l Z a0 hw b117 vl vn h139 n0 F144 F143) 2 (by decide) (by decide) rfl (by rw [hml]; rfl) (lenOf pd___J rfl) rfl (by show 2 * 0 + _ ≤ _; exact Nat.le_of_eq rfl) (hb hby at_217) (by decide) (by decide) (fun v165 T162 h164 A163 hQ166 => ?_)
    obtain ⟨rfl, rfl⟩ := hQ166
    show own_Go _ _ _ _ (T162.setTop (mkF m 220 #[.val (.int p0), .val (.int p1), .val (.int p2), .val (.long q3), .second, .val (.int p4), .val (.int vf), .val (.int vs), .val (.int vl), .val (.long vu), .second, .val (.double (FP.i2d (p4 &&& (1023 : Int32)))), .second, .val (.double (FP.i2d (((p4.toUInt32 >>> ((10 : Int32) &&& 31).toUInt32).toInt32) &&& (1023 : Int32)))), .second, .val (.ref b9), .val (.long zs), .second, .val (.ref b39), .val (.int vm), .val (.ref b80), .val (.ref b117)] [(.long (f5 vl vn)), (.long za)]))
    have h_zb := own_slots vl vn
    generalize e_zb : (f5 vl vn) = zb at h_zb ⊢
    show own_Go _ _ _ _ (T162.setTop (mkF m 220 #[.val (.int p0), .val (.int p1), .val (.int p2), .val (.long q3), .second, .val (.int p4), .val (.int vf), .val (.int vs), .val (.int vl), .val (.long vu), .second, .val (.double (FP.i2d (p4 &&& (1023 : Int32)))), .second, .val (.double (FP.i2d (((p4.toUInt32 >>> ((10 : Int32) &&& 31).toUInt32).toInt32) &&& (1023 : Int32)))), .second, .val (.ref b9), .val (.long zs), .second, .val (.ref b39), .val (.int vm), .val (.ref b80), .val (.ref b117)] [(.long zb), (.long za)]))
    refine own_go (fun t k => XS.ladd A163.here hx rfl (hb hby at_220) rfl k) ?_
    show own_Go _ _ _ _ (T162.setTop (mkF m 221 #[.val (.int p0), .val (.int p1), .val (.int p2), .val (.long q3), .second, .val (.int p4), .val (.int vf), .val (.int vs), .val (.int vl), .val (.long vu), .second, .val (.double (FP.i2d (p4 &&& (1023 : Int32)))), .second, .val (.double (FP.i2d (((p4.toUInt32 >>> ((10 : Int32) &&& 31).toUInt32).toInt32) &&& (1023 : Int32)))), .second, .val (.ref b9), .val (.long zs), .second, .val (.ref b39), .val (.int vm), .val (.ref b80), .val (.ref b117)] [(.long (za + zb))]))
    refine own_go (fun t k => XS.lload A163.here hx rfl (hb hby at_221) rfl k) ?_
    show own_Go _ _ _ _ (T162.setTop (mkF m 223 #[.val (.int p0), .val (.int p1), .val (.int p2), .val (.long q3), .second, .val (.int p4), .val (.int vf), .val (.int vs), .val (.int vl), .val (.long vu), .second, .val (.double (FP.i2d (p4 &&& (1023 : Int32)))), .second, .val (.double (FP.i2d (((p4.toUInt32 >>> ((10 : Int32) &&& 31).toUInt32).toInt32) &&& (1023 : Int32)))), .second, .val (.ref b9), .val (.long zs), .second, .val (.ref b39), .val (.int vm), .val (.ref b80), .val (.ref b117)] [(.long zs), (.long (za + zb))]))
    refine own_go (fun t k => XS.lcmp A163.here hx rfl (hb hby at_223) rfl k) ?_
    show own_Go _ _ _ _ (T162.setTop (mkF m 224 #[.val (.int p0), .val (.int p1), .val (.int p2), .val (.long q3), .second, .val (.int p4), .val (.int vf), .val (.int vs), .val (.int vl), .val (.long vu), .second, .val (.double (FP.i2d (p4 &&& (1023 : Int32)))), .second, .val (.double (FP.i2d (((p4.toUInt32 >>> ((10 : Int32) &&& 31).toUInt32).toInt32) &&& (1023 : Int32)))), .second, .val (.ref b9), .val (.long zs), .second, .val (.ref b39), .val (.int vm), .val (.ref b80), .val (.ref b117)] [(.int (lcmpW (za + zb) zs))]))
    have hc167 : (lcmpW (za + zb) zs) = (0 : Int32) := own_lc0 (by have h1 := c_ladd za zb; have h2 := rng64 (za + zb); have h3 := rng32 vl; have h4 := rng32 vf; omega)
    refine own_go (fun t k => XS.ifNo A163.here hx rfl (hb hby at_224) rfl ((if0 _ _).trans (teq hc167).2) k) ?_
    show own_Go _ _ _ _ (T162.setTop (mkF m 227 #[.val (.int p0), .val (.int p1), .val (.int p2), .val (.long q3), .second, .val (.int p4), .val (.int vf), .val (.int vs), .val (.int vl), .val (.long vu), .second, .val (.double (FP.i2d (p4 &&& (1023 : Int32)))), .second, .val (.double (FP.i2d (((p4.toUInt32 >>> ((10 : Int32) &&& 31).toUInt32).toInt32) &&& (1023 : Int32)))), .second, .val (.ref b9), .val (.long zs), .second, .val (.ref b39), .val (.int vm), .val (.ref b80), .val (.ref b117)] []))
    refine own_go (fun t k => XS.iconst A163.here hx rfl (hb hby at_227) k) ?_
    show own_Go _ _ _ _ (T162.setTop (mkF m 228 #[.val (.int p0), .val (.int p1), .val (.int p2), .val (.long q3), .second, .val (.int p4), .val (.int vf), .val (.int vs), .val (.int vl), .val (.long vu), .second, .val (.double (FP.i2d (p4 &&& (1023 : Int32)))), .second, .val (.double (FP.i2d (((p4.toUInt32 >>> ((10 : Int32) &&& 31).toUInt32).toInt32) &&& (1023 : Int32)))), .second, .val (.ref b9), .val (.long zs), .second, .val (.ref b39), .val (.int vm), .val (.ref b80), .val (.ref b117)] [(.int (1 : Int32))]))
    refine own_go (fun t k => XS.goto A163.here hx rfl (pc0 := 228) (pc' := 232) rfl (hb hby at_228) (by decide) (by decide) k) ?_
    show own_Go _ _ _ _ (T162.setTop (mkF m 232 #[.val (.int p0), .val (.int p1), .val (.int p2), .val (.long q3), .second, .val (.int p4), .val (.int vf), .val (.int vs), .val (.int vl), .val (.long vu), .second, .val (.double (FP.i2d (p4 &&& (1023 : Int32)))), .second, .val (.double (FP.i2d (((p4.toUInt32 >>> ((10 : Int32) &&& 31).toUInt32).toInt32) &&& (1023 : Int32)))), .second, .val (.ref b9), .val (.long zs), .second, .val (.ref b39), .val (.int vm), .val (.ref b80), .val (.ref b117)] [(.int (1 : Int32))]))
    refine own_retN A163 hx (t := .boolean) hret (by simp) hlk (by decide) (by decide) (hb hby at_232) ?_
    exact ⟨rfl, trivial⟩
set_option maxRecDepth 65536 in
set_option maxHeartbeats 40000000 in
theorem comes_1 {Post : Tables → Env → Array Value → State → Outcome → State → Prop} (hpost : ∀ tb e args s v u, (limb_1_1.after args s (.returned v) u = true ∧ limb_1_2.after args s (.returned v) u = true ∧ True) → FrameEnd s (.returned v) u (Jvm.fieldLocs frame_1_writes args s ++ Jvm.arrayLocs frame_1_arrays args s ++ Jvm.staticLocs frame_1_statics s) 16 128 → Post tb e args s (.returned v) u) :
    ArmFor flags0 classFile x code maxLocals ret World_1 tables_1 room_1 Calls_1 rest_1 Pre_1 Post := by
  intro l hfl _ _ p e ha hc hk s m args below hf hA hF happ hP
  obtain ⟨hcalls, hrest, hpre⟩ := hP
  obtain ⟨-, -, -, hnamed, -, -, -, hat⟩ := (Spec.applies_iff hf).mp happ
  obtain ⟨hg, hn⟩ := and_e (Cond.before_iff.mp (show (Jvm.Cond.and given_1 narrow_1).before args s = true from hpre))
  obtain ⟨gc, gr⟩ := and_e hg
  obtain ⟨w0, w1, w2, w3, w4, rfl⟩ : ∃ w0 w1 w2 w3 w4 : Value, args = #[w0, w1, w2, w3, w4] := by
    have hs : args.size = 5 := by simpa [Cond.value, given_1] using gc
    obtain ⟨L⟩ := args
    match L, hs with
    | [w0, w1, w2, w3, w4], _ => exact ⟨w0, w1, w2, w3, w4, rfl⟩
  have hw := fun d (hd : d ∈ tables_1) => atoms_spec (ws := Jvm.Cond.code x code maxLocals ret :: tables_1) hat d (List.mem_cons_of_mem _ hd)
  have hfit : Fit s := fun {y c} hc i hi => by
    obtain ⟨ha, rfl⟩ := Array.getElem?_eq_some_iff.mp hc
    have q := List.all_eq_true.mp ((Array.all_eq_true_iff_forall_mem.mp hF) _ (Array.getElem_mem ha)) i (List.mem_range.mpr hi)
    simpa [Array.getElem?_eq_getElem hi] using q
  obtain ⟨q0, gr0⟩ := and_e gr
  obtain ⟨i0, ei0⟩ := is_v q0
  obtain rfl : w0 = (.int i0) := Option.some.inj ei0
  obtain ⟨q1, gr1⟩ := and_e gr0
  obtain ⟨i1, ei1⟩ := is_v q1
  obtain rfl : w1 = (.int i1) := Option.some.inj ei1
  obtain ⟨q2, gr2⟩ := and_e gr1
  obtain ⟨i2, ei2⟩ := is_v q2
  obtain rfl : w2 = (.int i2) := Option.some.inj ei2
  obtain ⟨q3, gr3⟩ := and_e gr2
  obtain ⟨i3, ei3⟩ := isL_v q3
  obtain rfl : w3 = (.long i3) := Option.some.inj ei3
  obtain ⟨i4, ei4⟩ := is_v gr3
  obtain rfl : w4 = (.int i4) := Option.some.inj ei4
  obtain ⟨n, o, h1, h2, h3, _, L, rfl, ⟨⟨rfl, hQ⟩, N⟩, hq⟩ := rm0 l s _ hw i0 i1 i2 i3 i4  s.heap s.heap.size (Old.start s) (Nat.le_refl _) tables_1 p e ha hc hk s m _ below hf ((Spec.applies_iff_loose hf).mp happ).1 ⟨rfl, State.Warmed39.refl s, rfl⟩ trivial
  refine ⟨n, _, h1, h2, h3, hpost _ _ _ _ _ _ ⟨Cond.after_iff.mpr rfl, Cond.after_iff.mpr (eq_i res_at (Term.int_eval (1)) rfl), trivial⟩ ⟨hq.1, hq.2.1, (hq.2.2.sift fun y hy => Or.inr (N y hy)).mono (by decide) (by decide)⟩⟩
theorem main_1_1 : Claimed_1_1 := comes_1 fun _ _ _ _ _ _ h hF => ⟨h.1, hF⟩
theorem main_1_2 : Claimed_1_2 := comes_1 fun _ _ _ _ _ _ h hF => ⟨h.2.1, hF⟩
end Jvm.Pilot.@@N@@
namespace Jvm.Pilot.@@N@@
open Jvm Jvm.ClassFile Sem Op Lib Jvm.Free Jvm.Stand Jvm.Pilot.@@N@@.Jvm.D
/-! MADE BY PROGRAM (witnessworld.py) out of the Statement's table words and the real class files: 11 classes; the members and pool entries that the words name. The judged class is class 1, her method 1. -/
namespace start1
open Jvm.ClassFile
def u (s : String) : CpInfo := .utf8 (stringToUtf16 s)
/-- a pool by its gaps: so many unusable entries, then the entry; so many at the end -/
def gap : Nat → List CpInfo → List CpInfo
  | 0, r => r
  | n + 1, r => .unusable :: gap n r
def poolList (es : List (Nat × CpInfo)) (last : Nat) : List CpInfo := es.foldr (fun e r => gap e.1 (e.2 :: r)) (gap last [])
def pool (es : List (Nat × CpInfo)) (last : Nat) : Array CpInfo := ⟨poolList es last⟩
def fileOf (pool : Array CpInfo) (this : Nat) (attrs : Array Attribute := #[]) (ms : Array MethodInfo := #[]) (fl : Nat := 33) (sup : Nat := 0) (ifs : Array Nat := #[]) (fds : Array FieldInfo := #[]) : ClassFile where
  minorVersion := 0
  majorVersion := 65
  constantPool := pool
  accessFlags := fl
  thisClass := this
  superClass := sup
  interfaces := ifs
  fields := fds
  methods := ms
  attributes := attrs
def plain (name : String) (sup : Option ClassId) : Class where
  name := name
  kind := .ordinary
  loader := none
  accessFlags := 33
  super := sup
  interfaces := #[]
  cf := none
  fields := #[]
  methods := #[]
  instanceTypes := #[]
  staticTypes := #[]
  resolved := #[]
  callSites := []
  init := .initialized
  statics := none
  mirror := none

def pool0 : Array CpInfo := pool [(5, u "<init>"), (0, u "()V"), (1, .class_ 10), (1, u "java/lang/Object")] 113

def k0c0 : Code := { maxStack := 0, maxLocals := 1, code := object_method_1_code, exceptionTable := #[], attributes := #[] }
def k0m0 : Method := { name := "<init>", desc := "()V", sig := { parameters := [], returnType := none }, accessFlags := 1, code := some k0c0 }
/-- java/lang/Object -/
def k0 : Class := { plain "java/lang/Object" none with
  accessFlags := 33
  interfaces := #[]
  cf := some (fileOf pool0 8 #[] #[{ accessFlags := 1, nameIndex := 5, descriptorIndex := 6, attributes := #[] }] 33 0 #[] #[])
  fields := #[]
  methods := #[k0m0]
  instanceTypes := #[]
  staticTypes := #[]
  resolved := Array.replicate 124 none
  statics := none }

def pool1 : Array CpInfo := pool [(2, .class_ 4), (1, u "java/lang/Object"), (0, u "<init>"), (0, u "()V"), (0, .integer 2147483647), (2, .methodref 11 12), (0, .class_ 13), (0, .nameAndType 14 15), (0, u "java/lang/Math"), (0, u "max"), (0, u "(JJ)J"), (0, .class_ 17), (0, u "com/example/gavelwright/gavelwright/model/Outcome$Holding"), (0, .methodref 16 19), (0, .nameAndType 5 20), (0, u "(IIJDD)V"), (0, .methodref 16 22), (0, .nameAndType 23 24), (0, u "slots"), (0, u "()J"), (0, .class_ 26), (0, u "com/example/gavelwright/gavelwright/model/HoldingSlotsPinLaw"), (2, u "law"), (0, u "(IIIJI)Z")] 7

def k1m0 : Method := { name := "<init>", desc := "()V", sig := { parameters := [], returnType := none }, accessFlags := 1, code := none }
def k1c1 : Code := { maxStack := 10, maxLocals := 22, code := code, exceptionTable := #[], attributes := #[] }
def k1m1 : Method := { name := "law", desc := "(IIIJI)Z", sig := { parameters := [.int, .int, .int, .long, .int], returnType := some .boolean }, accessFlags := 9, code := some k1c1 }
/-- com/example/gavelwright/gavelwright/model/HoldingSlotsPinLaw -/
def k1 : Class := { plain "com/example/gavelwright/gavelwright/model/HoldingSlotsPinLaw" (some 0) with
  accessFlags := 49
  interfaces := #[]
  cf := some (fileOf pool1 25 #[] #[{ accessFlags := 1, nameIndex := 5, descriptorIndex := 6, attributes := #[] }, { accessFlags := 9, nameIndex := 29, descriptorIndex := 30, attributes := #[] }] 49 2 #[] #[])
  fields := #[]
  methods := #[k1m0, k1m1]
  instanceTypes := #[]
  staticTypes := #[]
  resolved := Array.replicate 38 none
  statics := none }

def pool2 : Array CpInfo := pool [(1, .class_ 2), (0, u "java/lang/Math"), (1, .class_ 6), (1, u "java/lang/Object"), (0, u "<init>"), (0, u "()V"), (89, .class_ 100), (1, u "java/lang/Math$RandomNumberGeneratorHolder"), (20, u "(JJ)J"), (50, u "negativeZeroFloatBits"), (0, u "J"), (2, u "negativeZeroDoubleBits"), (21, u "max"), (46, u "$assertionsDisabled"), (0, u "Z"), (91, u "twoToTheDoubleScaleDown"), (0, u "D"), (4, u "twoToTheDoubleScaleUp"), (9, u "E"), (3, u "PI"), (2, u "TAU"), (2, u "DEGREES_TO_RADIANS"), (0, u "RADIANS_TO_DEGREES")] 94

def k2m0 : Method := { name := "<init>", desc := "()V", sig := { parameters := [], returnType := none }, accessFlags := 2, code := none }
def k2c1 : Code := { maxStack := 4, maxLocals := 4, code := jdk_29_method_66_code, exceptionTable := #[], attributes := #[] }
def k2m1 : Method := { name := "max", desc := "(JJ)J", sig := { parameters := [.long, .long], returnType := some .long }, accessFlags := 9, code := some k2c1 }
/-- java/lang/Math -/
def k2 : Class := { plain "java/lang/Math" (some 0) with
  accessFlags := 49
  interfaces := #[]
  cf := some (fileOf pool2 1 #[.nestMembers #[98]] #[{ accessFlags := 2, nameIndex := 7, descriptorIndex := 8, attributes := #[] }, { accessFlags := 9, nameIndex := 198, descriptorIndex := 121, attributes := #[] }] 49 4 #[] #[{ accessFlags := 25, nameIndex := 354, descriptorIndex := 339, attributes := #[] }, { accessFlags := 25, nameIndex := 358, descriptorIndex := 339, attributes := #[] }, { accessFlags := 25, nameIndex := 361, descriptorIndex := 339, attributes := #[] }, { accessFlags := 26, nameIndex := 364, descriptorIndex := 339, attributes := #[] }, { accessFlags := 26, nameIndex := 365, descriptorIndex := 339, attributes := #[] }, { accessFlags := 26, nameIndex := 172, descriptorIndex := 173, attributes := #[] }, { accessFlags := 26, nameIndex := 176, descriptorIndex := 173, attributes := #[] }, { accessFlags := 8, nameIndex := 344, descriptorIndex := 339, attributes := #[] }, { accessFlags := 8, nameIndex := 338, descriptorIndex := 339, attributes := #[] }, { accessFlags := 4120, nameIndex := 245, descriptorIndex := 246, attributes := #[] }])
  fields := #[{ name := "E", type := .double, accessFlags := 25, slot := 0, constantValue := 0 }, { name := "PI", type := .double, accessFlags := 25, slot := 1, constantValue := 0 }, { name := "TAU", type := .double, accessFlags := 25, slot := 2, constantValue := 0 }, { name := "DEGREES_TO_RADIANS", type := .double, accessFlags := 26, slot := 3, constantValue := 0 }, { name := "RADIANS_TO_DEGREES", type := .double, accessFlags := 26, slot := 4, constantValue := 0 }, { name := "negativeZeroFloatBits", type := .long, accessFlags := 26, slot := 5, constantValue := 0 }, { name := "negativeZeroDoubleBits", type := .long, accessFlags := 26, slot := 6, constantValue := 0 }, { name := "twoToTheDoubleScaleUp", type := .double, accessFlags := 8, slot := 7, constantValue := 0 }, { name := "twoToTheDoubleScaleDown", type := .double, accessFlags := 8, slot := 8, constantValue := 0 }, { name := "$assertionsDisabled", type := .boolean, accessFlags := 4120, slot := 9, constantValue := 0 }]
  methods := #[k2m0, k2m1]
  instanceTypes := #[]
  staticTypes := #[.double, .double, .double, .double, .double, .long, .long, .double, .double, .boolean]
  resolved := Array.replicate 460 none
  statics := none }

def pool3 : Array CpInfo := pool [(1, .methodref 2 3), (0, .class_ 4), (0, .nameAndType 5 6), (0, u "java/lang/Object"), (0, u "<init>"), (0, u "()V"), (0, .class_ 8), (0, u "java/lang/Record")] 13

def k3c0 : Code := { maxStack := 1, maxLocals := 1, code := jdk_30_method_1_code, exceptionTable := #[], attributes := #[] }
def k3m0 : Method := { name := "<init>", desc := "()V", sig := { parameters := [], returnType := none }, accessFlags := 4, code := some k3c0 }
/-- java/lang/Record -/
def k3 : Class := { plain "java/lang/Record" (some 0) with
  accessFlags := 1057
  interfaces := #[]
  cf := some (fileOf pool3 7 #[] #[{ accessFlags := 4, nameIndex := 5, descriptorIndex := 6, attributes := #[] }] 1057 2 #[] #[])
  fields := #[]
  methods := #[k3m0]
  instanceTypes := #[]
  staticTypes := #[]
  resolved := Array.replicate 22 none
  statics := none }

def pool4 : Array CpInfo := pool [(1, .methodref 2 3), (0, .class_ 4), (0, .nameAndType 5 6), (0, u "java/lang/Record"), (0, u "<init>"), (0, u "()V"), (15, .fieldref 23 24), (0, .class_ 25), (0, .nameAndType 26 27), (0, u "com/example/gavelwright/gavelwright/model/Outcome$Holding"), (0, u "first"), (0, u "I"), (0, .fieldref 23 29), (0, .nameAndType 30 27), (0, u "last"), (0, .fieldref 23 32), (0, .nameAndType 33 34), (0, u "units"), (0, u "J"), (0, .fieldref 23 36), (0, .nameAndType 37 38), (0, u "value"), (0, u "D"), (0, .fieldref 23 40), (0, .nameAndType 41 38), (0, u "payment"), (12, u "(IIJDD)V"), (4, u "slots"), (0, u "()J"), (7, .class_ 69), (0, u "com/example/gavelwright/gavelwright/model/Outcome")] 35

def k4c0 : Code := { maxStack := 4, maxLocals := 9, code := prog_77_method_1_code, exceptionTable := #[], attributes := #[] }
def k4m0 : Method := { name := "<init>", desc := "(IIJDD)V", sig := { parameters := [.int, .int, .long, .double, .double], returnType := none }, accessFlags := 1, code := some k4c0 }
def k4c1 : Code := { maxStack := 4, maxLocals := 1, code := prog_77_method_2_code, exceptionTable := #[], attributes := #[] }
def k4m1 : Method := { name := "slots", desc := "()J", sig := { parameters := [], returnType := some .long }, accessFlags := 1, code := some k4c1 }
/-- com/example/gavelwright/gavelwright/model/Outcome$Holding -/
def k4 : Class := { plain "com/example/gavelwright/gavelwright/model/Outcome$Holding" (some 3) with
  accessFlags := 49
  interfaces := #[]
  cf := some (fileOf pool4 23 #[.nestHost 68] #[{ accessFlags := 1, nameIndex := 5, descriptorIndex := 54, attributes := #[] }, { accessFlags := 1, nameIndex := 59, descriptorIndex := 60, attributes := #[] }] 49 2 #[] #[{ accessFlags := 18, nameIndex := 26, descriptorIndex := 27, attributes := #[] }, { accessFlags := 18, nameIndex := 30, descriptorIndex := 27, attributes := #[] }, { accessFlags := 18, nameIndex := 33, descriptorIndex := 34, attributes := #[] }, { accessFlags := 18, nameIndex := 37, descriptorIndex := 38, attributes := #[] }, { accessFlags := 18, nameIndex := 41, descriptorIndex := 38, attributes := #[] }])
  fields := #[{ name := "first", type := .int, accessFlags := 18, slot := 0, constantValue := 0 }, { name := "last", type := .int, accessFlags := 18, slot := 1, constantValue := 0 }, { name := "units", type := .long, accessFlags := 18, slot := 2, constantValue := 0 }, { name := "value", type := .double, accessFlags := 18, slot := 3, constantValue := 0 }, { name := "payment", type := .double, accessFlags := 18, slot := 4, constantValue := 0 }]
  methods := #[k4m0, k4m1]
  instanceTypes := #[.int, .int, .long, .double, .double]
  staticTypes := #[]
  resolved := Array.replicate 105 none
  statics := none }

def pool5 : Array CpInfo := pool [(1, u "java/lang/Cloneable"), (0, .class_ 1), (0, u "java/lang/Object"), (0, .class_ 3)] 3

/-- java/lang/Cloneable -/
def k5 : Class := { plain "java/lang/Cloneable" (some 0) with
  accessFlags := 1537
  interfaces := #[]
  cf := some (fileOf pool5 2 #[] #[] 1537 4 #[] #[])
  fields := #[]
  methods := #[]
  instanceTypes := #[]
  staticTypes := #[]
  resolved := Array.replicate 8 none
  statics := none }

def pool6 : Array CpInfo := pool [(1, u "java/io/Serializable"), (0, .class_ 1), (0, u "java/lang/Object"), (0, .class_ 3)] 3

/-- java/io/Serializable -/
def k6 : Class := { plain "java/io/Serializable" (some 0) with
  accessFlags := 1537
  interfaces := #[]
  cf := some (fileOf pool6 2 #[] #[] 1537 4 #[] #[])
  fields := #[]
  methods := #[]
  instanceTypes := #[]
  staticTypes := #[]
  resolved := Array.replicate 8 none
  statics := none }

/-- the primitive byte -/
def k7 : Class := { plain "byte" none with kind := .primitive 'B', accessFlags := 0x411 }
/-- [B -/
def k8 : Class := { plain "[B" (some 0) with kind := .array 7 .byte, interfaces := #[5, 6], accessFlags := 1041 }

/-- the primitive int -/
def k9 : Class := { plain "int" none with kind := .primitive 'I', accessFlags := 0x411 }
/-- [I -/
def k10 : Class := { plain "[I" (some 0) with kind := .array 9 .int, interfaces := #[5, 6], accessFlags := 1041 }

def heap : Heap := #[]
def classes : Array Class := #[k0, k1, k2, k3, k4, k5, k6, k7, k8, k9, k10]
def interned : List (Array UInt16 × Addr) := []
def slotsUsed : Nat := 0
def theMethod : MethodId := ⟨1, 1⟩
def args0 : Array Value := #[.int 1, .int 2, .int 3, .long 4, .int 5]
def aboutOver (below : List Frame) : State where
  vm := { classes := classes, interned := interned.toArray }
  heap := heap
  slotsUsed := slotsUsed
  threads := #[{ frames := .invoking theMethod args0 :: below }]
def below0 : List Frame := [.native { method := ⟨0, 0⟩, args := #[] }]
def about1 : State := aboutOver below0
def p0 : Program := .bare "" "" ""
def e0 : Env := launch0.env 0 0 0
theorem w_frames : about1.frames = Frame.invoking theMethod args0 :: below0 := rfl
set_option maxRecDepth 65536 in
theorem w_args : argsFit about1.vm theMethod args0 = true := by decide +kernel
set_option maxRecDepth 65536 in
theorem w_heap : heapFits about1 = true := by decide +kernel
set_option maxRecDepth 65536 in
theorem w_runnable : about1.curStatus? = some .runnable := by decide +kernel
set_option maxRecDepth 65536 in
theorem w_alone : about1.alone = true := by decide +kernel
set_option maxRecDepth 65536 in
theorem w_named : about1.methodNamed? x = some theMethod := by decide +kernel
set_option maxRecDepth 65536 in
theorem w_hears : about1.hears theMethod below0 = true := by decide +kernel
set_option maxRecDepth 65536 in
theorem w_ripe : about1.ripe theMethod args0 below0 = true := by decide +kernel
theorem w_running : about1.status = .running := rfl
set_option maxRecDepth 65536 in
theorem w_room : about1.hasRoom e0.platform room_1 = true :=
  launch0.hasRoom_least _ room_1 (by decide +kernel) (by decide +kernel) (by decide +kernel) (by decide +kernel) (by decide +kernel) (by decide +kernel)
theorem allAtoms_all (ts : List Jvm.Cond) (a : Array Jvm.Value) (st : Jvm.State) : (allAtoms ts).before a st = ts.all (fun c => c.before a st) := by
  induction ts with
  | nil => rfl
  | cons c t ih =>
    show (Jvm.Cond.and c (allAtoms t)).before a st = _
    rw [Jvm.Cond.before_and, ih, List.all_cons]
def words1 : List Jvm.Cond := Jvm.Cond.code x code maxLocals ret :: tables_1
/-- a 'code' word, met by the world's own term for the bytes: nothing is compared byte by byte -/
theorem code_word {y : MethodName} {bytes : ByteArray} {mx : Nat} {rt : Option FieldType} {a : Array Value} {s : State} {m : MethodId} {meth : Method} {c : Code} (h1 : s.methodNamed? y = some m) (h2 : s.vm.method? m = some meth) (h3 : meth.code = some c) (h4 : c.code = bytes)
    (h5 : (c.maxLocals == mx && c.exceptionTable.isEmpty && decide (c.maxStack ≤ mostOperands) && decide (meth.sig.returnType = rt) && !meth.locks && decide (parseMethodDescriptor y.desc = some meth.sig)) = true) : (Jvm.Cond.code y bytes mx rt).before a s = true := by
  simp only [Bool.and_eq_true, beq_iff_eq, Bool.not_eq_true', decide_eq_true_eq] at h5
  obtain ⟨⟨⟨⟨⟨g1, g2⟩, g3⟩, g4⟩, g5⟩, g6⟩ := h5
  simp [Cond.before, Cond.holds, Cond.value, h1, h2, h3, h4, g1, g2, g3, g4, g5, g6]
def isCode : Jvm.Cond → Bool
  | .code _ _ _ _ => true
  | _ => false
theorem all_split {L : List Jvm.Cond} {P : Jvm.Cond → Bool} (h1 : L.all (fun c => isCode c || P c) = true) (h2 : ∀ c ∈ L.filter isCode, P c = true) : L.all P = true := by
  refine List.all_eq_true.mpr fun c hc => ?_
  have h := List.all_eq_true.mp h1 c hc
  rcases Bool.eq_false_or_eq_true (isCode c) with hi | hi
  · exact h2 c (List.mem_filter.mpr ⟨hc, hi⟩)
  · simpa [hi] using h
set_option maxRecDepth 65536 in
theorem w_c0 : (Jvm.Cond.code x code maxLocals ret).before args0 about1 = true := code_word (m := ⟨1, 1⟩) (meth := k1m1) (c := k1c1) (by decide +kernel) rfl rfl rfl (by decide +kernel)
set_option maxRecDepth 65536 in
theorem w_c1 : (Jvm.Cond.code ({ cls := "java/lang/Math", name := "max", desc := "(JJ)J" } : Jvm.MethodName) jdk_29_method_66_code (4 : Nat) (Option.some Jvm.ClassFile.FieldType.long)).before args0 about1 = true := code_word (m := ⟨2, 1⟩) (meth := k2m1) (c := k2c1) (by decide +kernel) rfl rfl rfl (by decide +kernel)
set_option maxRecDepth 65536 in
theorem w_c2 : (Jvm.Cond.code ({ cls := "com/example/gavelwright/gavelwright/model/Outcome$Holding", name := "<init>", desc := "(IIJDD)V" } : Jvm.MethodName) prog_77_method_1_code (9 : Nat) (Option.none : Option Jvm.ClassFile.FieldType)).before args0 about1 = true := code_word (m := ⟨4, 0⟩) (meth := k4m0) (c := k4c0) (by decide +kernel) rfl rfl rfl (by decide +kernel)
set_option maxRecDepth 65536 in
theorem w_c3 : (Jvm.Cond.code ({ cls := "java/lang/Record", name := "<init>", desc := "()V" } : Jvm.MethodName) jdk_30_method_1_code (1 : Nat) (Option.none : Option Jvm.ClassFile.FieldType)).before args0 about1 = true := code_word (m := ⟨3, 0⟩) (meth := k3m0) (c := k3c0) (by decide +kernel) rfl rfl rfl (by decide +kernel)
set_option maxRecDepth 65536 in
theorem w_c4 : (Jvm.Cond.code ({ cls := "java/lang/Object", name := "<init>", desc := "()V" } : Jvm.MethodName) object_method_1_code (1 : Nat) (Option.none : Option Jvm.ClassFile.FieldType)).before args0 about1 = true := code_word (m := ⟨0, 0⟩) (meth := k0m0) (c := k0c0) (by decide +kernel) rfl rfl rfl (by decide +kernel)
set_option maxRecDepth 65536 in
theorem w_c5 : (Jvm.Cond.code ({ cls := "com/example/gavelwright/gavelwright/model/Outcome$Holding", name := "slots", desc := "()J" } : Jvm.MethodName) prog_77_method_2_code (1 : Nat) (Option.some Jvm.ClassFile.FieldType.long)).before args0 about1 = true := code_word (m := ⟨4, 1⟩) (meth := k4m1) (c := k4c1) (by decide +kernel) rfl rfl rfl (by decide +kernel)
def codes1 : List Jvm.Cond := [Jvm.Cond.code x code maxLocals ret, Jvm.Cond.code ({ cls := "java/lang/Math", name := "max", desc := "(JJ)J" } : Jvm.MethodName) jdk_29_method_66_code (4 : Nat) (Option.some Jvm.ClassFile.FieldType.long), Jvm.Cond.code ({ cls := "com/example/gavelwright/gavelwright/model/Outcome$Holding", name := "<init>", desc := "(IIJDD)V" } : Jvm.MethodName) prog_77_method_1_code (9 : Nat) (Option.none : Option Jvm.ClassFile.FieldType), Jvm.Cond.code ({ cls := "java/lang/Record", name := "<init>", desc := "()V" } : Jvm.MethodName) jdk_30_method_1_code (1 : Nat) (Option.none : Option Jvm.ClassFile.FieldType), Jvm.Cond.code ({ cls := "java/lang/Object", name := "<init>", desc := "()V" } : Jvm.MethodName) object_method_1_code (1 : Nat) (Option.none : Option Jvm.ClassFile.FieldType), Jvm.Cond.code ({ cls := "com/example/gavelwright/gavelwright/model/Outcome$Holding", name := "slots", desc := "()J" } : Jvm.MethodName) prog_77_method_2_code (1 : Nat) (Option.some Jvm.ClassFile.FieldType.long)]
set_option maxRecDepth 65536 in
theorem codes_eq : words1.filter isCode = codes1 := rfl
theorem w_codes : ∀ c ∈ words1.filter isCode, c.before args0 about1 = true := by
  rw [codes_eq]
  intro c hc
  simp only [codes1, List.mem_cons, List.not_mem_nil, or_false] at hc
  rcases hc with rfl | rfl | rfl | rfl | rfl | rfl
  · exact w_c0
  · exact w_c1
  · exact w_c2
  · exact w_c3
  · exact w_c4
  · exact w_c5
set_option maxRecDepth 65536 in
theorem w_t1 : (words1.take 24).all (fun c => isCode c || c.before args0 about1) = true := by decide +kernel
set_option maxRecDepth 65536 in
theorem w_t2 : (words1.drop 24).all (fun c => isCode c || c.before args0 about1) = true := by decide +kernel
theorem w_tables : (allAtoms (Jvm.Cond.code x code maxLocals ret :: tables_1)).before args0 about1 = true := by
  rw [allAtoms_all]
  show words1.all (fun c => c.before args0 about1) = true
  refine all_split ?_ w_codes
  rw [← List.take_append_drop 24 words1, List.all_append, w_t1, w_t2]
  rfl
set_option maxRecDepth 65536 in
theorem w_case : (Jvm.Cond.and given_1 narrow_1).before args0 about1 = true := by decide +kernel
theorem w_applies : (headSpec (Jvm.Cond.code x code maxLocals ret :: tables_1) room_1).applies x e0.platform about1 = true :=
  (Spec.applies_iff w_frames).mpr ⟨w_running, w_runnable, w_alone, w_named, w_hears, w_ripe, w_room, w_tables⟩
theorem atStart : AtStart classFile x code maxLocals ret World_1 tables_1 room_1 Calls_1 rest_1 Pre_1 launch0 p0 e0 about1 theMethod args0 below0 :=
  ⟨lists_1, trivial, launch0.admits_env _ _ _, launch0.least_env, fairChoices_fair.cas, fairChoices_fair.clock, w_frames, w_args, w_heap, w_applies, trivial, trivial, w_case⟩
end start1
theorem witness_1 : WitnessClaimed_1 := ⟨start1.p0, start1.e0, start1.about1, start1.theMethod, start1.args0, start1.below0, start1.atStart⟩
end Jvm.Pilot.@@N@@
