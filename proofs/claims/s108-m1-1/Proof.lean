import JvmDerived
import JvmDerived.Pilot.@@N@@Statement
import JvmDerived.Pilot.@@N@@Code
set_option linter.unusedVariables false
set_option linter.unusedSimpArgs false
namespace Jvm.Pilot.@@N@@
open Jvm Jvm.ClassFile Sem Op Lib Jvm.Free Jvm.Stand Jvm.LawKit Jvm.RoadKit Bundle Jvm.Pilot.@@N@@.Jvm.D
section OwnKit
variable {p : Program} {l : Launch} {e : Env} {R : Room} {s : State} {m : MethodId} {args : Array Value} {below : List Frame} {meth : Method} {c : Code} {T : State} {locs : List Loc} {cells slots : Nat} {Z : State} {a0 : Array Value} {h : Heap} {n0 : Nat} {G : State → Outcome → Prop} {kc ks : Nat} {Q : Option Value → Heap → Prop}
/-- what is left of a walk: from U the body comes to an end of which G holds -/
def own_Go (tb : Tables) (e : Env) (below : List Frame) (G : State → Outcome → Prop) (U : State) : Prop := ∃ s₂ o, Steps tb e below U s₂ ∧ s₂.status = .running ∧ Ended s₂ below o ∧ G s₂ o
theorem own_go {tb : Tables} {U U' : State} (f : ∀ t, Steps tb e below U' t → Steps tb e below U t) (k : own_Go tb e below G U') : own_Go tb e below G U := by
  obtain ⟨a, b, c, d⟩ := k
  exact ⟨a, b, f _ c, d⟩
/-- where the run stands: its heap is h, nothing below n0 has been written -/
def own_At (p : Program) (l : Launch) (e : Env) (R : Room) (s : State) (m : MethodId) (args : Array Value) (below : List Frame) (meth : Method) (c : Code) (n0 : Nat) (T : State) (h : Heap) (cells slots : Nat) : Prop :=
  ∃ locs, Stand p l e R s m args below meth c T locs cells slots ∧ T.heap = h ∧ Fr n0 locs
theorem own_At.here (A : own_At p l e R s m args below meth c n0 T h cells slots) : At T m c below := by obtain ⟨_, X, -, -⟩ := A; exact X.here
theorem own_At.heap (A : own_At p l e R s m args below meth c n0 T h cells slots) : T.heap = h := by obtain ⟨_, -, q, -⟩ := A; exact q
/-- the end of a body: it returns v, Q holds of v and the heap -/
def own_End (n0 : Nat) (s : State) (kc ks : Nat) (Q : Option Value → Heap → Prop) : State → Outcome → Prop := fun s₂ o => ∃ v L, o = .returned v ∧ (Q v s₂.heap ∧ Fr n0 L) ∧ FrameEnd s o s₂ L kc ks
theorem own_leave (A : own_At p l e R s m args below meth c n0 T h cells slots) {v : Option Value} (hv : meth.sig.returnType = none → v = none) (hlk : meth.locks = false) (hc : cells ≤ kc) (hs : slots ≤ ks) (q : Q v h) {U : State}
    (st : ∀ locs, Stand p l e R s m args below meth c T locs cells slots → ∀ fs, (∀ (f : JFrame) (acts : List Action), f.method = m → f.locked = none → f.entered = [] → (doReturn e (T.setTop f) acts v).1 = T.setFrames fs) → Steps p.tables e below U (T.setFrames fs)) : own_Go p.tables e below (own_End n0 s kc ks Q) U := by
  obtain ⟨locs, X, rfl, N⟩ := A
  obtain ⟨fs, hr, hrun, hended, hW, hsame⟩ := X.leave hv hlk
  exact ⟨_, _, st locs X fs hr, hrun, hended, _, _, rfl, ⟨q, N⟩, ⟨_, rfl⟩, hW, hsame.mono hc hs⟩
theorem own_retI (A : own_At p l e R s m args below meth c n0 T h cells slots) (hx : p.tables.exec = Jvm.exec) (hret : meth.sig.returnType = some .int) (hlk : meth.locks = false) (hc : cells ≤ kc) (hs : slots ≤ ks) {pc : Nat} {Ls : Array Slot} {z : Int32} {rest : List Value} (hd : decode c.code pc = .ok (.ireturn, 1)) (q : Q (some (.int z)) h) :
    own_Go p.tables e below (own_End n0 s kc ks Q) (T.setTop (mkF m pc Ls (.int z :: rest))) :=
  own_leave A (fun q => by rw [hret] at q; cases q) hlk hc hs q fun _ X _ hr => retOut X hx hret rfl (Or.inl ⟨rfl, Or.inl rfl, _, rfl⟩) hd hr
theorem own_retN (A : own_At p l e R s m args below meth c n0 T h cells slots) (hx : p.tables.exec = Jvm.exec) {t : FieldType} (hret : meth.sig.returnType = some t) (ht : t = .boolean ∨ t = .byte ∨ t = .char ∨ t = .short) (hlk : meth.locks = false) (hc : cells ≤ kc) (hs : slots ≤ ks) {pc : Nat} {Ls : Array Slot} {z : Int32} {rest : List Value} (hd : decode c.code pc = .ok (.ireturn, 1)) (q : Q (some (.int (nar t z))) h) :
    own_Go p.tables e below (own_End n0 s kc ks Q) (T.setTop (mkF m pc Ls (.int z :: rest))) :=
  own_leave A (fun q => by rw [hret] at q; cases q) hlk hc hs q fun _ X _ hr => retN X hx hret ht hd hr
theorem own_retJ (A : own_At p l e R s m args below meth c n0 T h cells slots) (hx : p.tables.exec = Jvm.exec) (hret : meth.sig.returnType = some .long) (hlk : meth.locks = false) (hc : cells ≤ kc) (hs : slots ≤ ks) {pc : Nat} {Ls : Array Slot} {z : Int64} {rest : List Value} (hd : decode c.code pc = .ok (.lreturn, 1)) (q : Q (some (.long z)) h) :
    own_Go p.tables e below (own_End n0 s kc ks Q) (T.setTop (mkF m pc Ls (.long z :: rest))) :=
  own_leave A (fun q => by rw [hret] at q; cases q) hlk hc hs q fun _ X _ hr => retOut X hx hret rfl (Or.inr (Or.inl ⟨rfl, rfl, _, rfl⟩)) hd hr
theorem own_retD (A : own_At p l e R s m args below meth c n0 T h cells slots) (hx : p.tables.exec = Jvm.exec) (hret : meth.sig.returnType = some .double) (hlk : meth.locks = false) (hc : cells ≤ kc) (hs : slots ≤ ks) {pc : Nat} {Ls : Array Slot} {z : UInt64} {rest : List Value} (hd : decode c.code pc = .ok (.dreturn, 1)) (q : Q (some (.double z)) h) :
    own_Go p.tables e below (own_End n0 s kc ks Q) (T.setTop (mkF m pc Ls (.double z :: rest))) :=
  own_leave A (fun q => by rw [hret] at q; cases q) hlk hc hs q fun _ X _ hr => retOut X hx hret rfl (Or.inr (Or.inr (Or.inl ⟨rfl, rfl, _, rfl⟩))) hd hr
theorem own_retA (A : own_At p l e R s m args below meth c n0 T h cells slots) (hx : p.tables.exec = Jvm.exec) {t : FieldType} (hret : meth.sig.returnType = some t) (ht : t.isReference = true) (hlk : meth.locks = false) (hc : cells ≤ kc) (hs : slots ≤ ks) {pc : Nat} {Ls : Array Slot} {w : Value} (hw : w.isRef = true) {rest : List Value} (hd : decode c.code pc = .ok (.areturn, 1)) (q : Q (some w) h) :
    own_Go p.tables e below (own_End n0 s kc ks Q) (T.setTop (mkF m pc Ls (w :: rest))) :=
  own_leave A (fun q => by rw [hret] at q; cases q) hlk hc hs q fun _ X _ hr => retOut X hx hret (by cases t <;> first | rfl | cases ht) (Or.inr (Or.inr (Or.inr (Or.inr ⟨rfl, ht, hw⟩)))) hd hr
theorem own_retV (A : own_At p l e R s m args below meth c n0 T h cells slots) (hx : p.tables.exec = Jvm.exec) (hret : meth.sig.returnType = none) (hlk : meth.locks = false) (hc : cells ≤ kc) (hs : slots ≤ ks) {pc : Nat} {Ls : Array Slot} (hd : decode c.code pc = .ok (.return_, 1)) (q : Q none h) :
    own_Go p.tables e below (own_End n0 s kc ks Q) (T.setTop (mkF m pc Ls [])) :=
  own_leave A (fun _ => rfl) hlk hc hs q fun _ X _ hr => X.returnOut hx hret hd hr
/-- a body's contract: called with as' at the heap h0 it returns, and Q holds of what it returns and of the heap -/
def own_Met (l : Launch) (Z : State) (n0 : Nat) (y : MethodName) (bytes : ByteArray) (maxL : Nat) (ret : Option FieldType) (rm : Room) (as' : Array Value) (h0 : Heap) (Q : Option Value → Heap → Prop) : Prop :=
  ∀ ws, MetFree l y (head1 (Cond.code y bytes maxL ret :: ws) rm) (fun a U => a = as' ∧ Z.Warmed39 U.vm ∧ U.heap = h0) (fun _ _ _ _ _ => True) (fun _ U o U' => ∃ v L, o = .returned v ∧ (Q v U'.heap ∧ Fr n0 L) ∧ FrameEnd U o U' L rm.cells rm.slots)
theorem own_met {y : MethodName} {bytes : ByteArray} {maxL : Nat} {ret : Option FieldType} {rm : Room} {as' : Array Value} {h0 : Heap} (hp : plainFor y = true)
    (body : ∀ (p : Program) (e : Env) (s : State) (m : MethodId) (below : List Frame) (meth : Method) (c : Code) (T : State), p.tables.exec = Jvm.exec → c.code = bytes → c.maxLocals = maxL → s.vm.findClass y.cls = some m.cls → meth.name = y.name → meth.sig.returnType = ret → meth.locks = false → Z.Warmed39 s.vm →
      own_At p l e rm s m as' below meth c n0 T h0 0 0 → own_Go p.tables e below (own_End n0 s rm.cells rm.slots Q) (T.setTop (entryFrame m as' maxL))) : own_Met l Z n0 y bytes maxL ret rm as' h0 Q := by
  intro ws
  refine MetFree.of_bodySF hp hisR ?_
  intro p e s m args below meth c s₁ Bd hml0 hP hK
  obtain ⟨rfl, hZ, hh⟩ := hP
  exact body p e s m below meth c s₁ Bd.exec Bd.bytes hml0 (findClass_of_methodNamed Bd.named) (name_of_methodNamed Bd.named Bd.method).1 Bd.returns Bd.notSynchronized hZ ⟨[], Stand.of_body Bd, by rw [← hh, Bd.state]; rfl, Fr.nil n0⟩
theorem own_callS (A : own_At p l e R s m args below meth c n0 T h cells slots) (hx : p.tables.exec = Jvm.exec) (hZ : Z.Warmed39 s.vm) {own : String} {index : Nat} {y : MethodName} {bytes : ByteArray} {maxL : Nat} {ret : Option FieldType} (hown : s.vm.findClass own = some m.cls)
    (w1 : (Cond.methodLink own index y).before a0 Z = true) (w2 : (Cond.static y).before a0 Z = true) (w3 : (Cond.initialized y.cls).before a0 Z = true) (w4 : (Cond.code y bytes maxL ret).before a0 Z = true) (hy : y.cls ≠ "java/lang/invoke/MethodHandle" ∧ y.cls ≠ "java/lang/invoke/VarHandle")
    {rm : Room} {argsL rest : List Value} (hM : own_Met l Z n0 y bytes maxL ret rm argsL.toArray h Q) (W : Nat) (hfr : rm.frames + 1 ≤ R.frames) (hlo : W + (maxL + 11) + rm.locals ≤ R.locals) {g : JFrame} (hg : g.method = m) (hsize : g.locals.size = c.maxLocals)
    (hlen : ∀ sig, parseMethodDescriptor y.desc = some sig → argsL.length = sig.parameters.length) (hs : g.stack = argsL.reverse ++ rest) (hW : 2 * g.monitorRoom + (rest.map fun v => v.category).sum ≤ W) (hd : decode c.code g.pc = .ok (.invokestatic index, 3))
    (hc : cells + rm.cells ≤ R.cells) (hl : slots + rm.slots ≤ R.slots)
    (k : ∀ v T' h', own_At p l e R s m args below meth c n0 T' h' (cells + rm.cells) (slots + rm.slots) → Q v h' → own_Go p.tables e below G (T'.setTop { g with pc := g.pc + 3, stack := v.toList ++ rest })) : own_Go p.tables e below G (T.setTop g) := by
  obtain ⟨locs, X, eT, N⟩ := A
  obtain ⟨v, _, ⟨T1, L1, k1, s1⟩, -, X1, ⟨Lc, ⟨hQ, N1⟩, l1, y1, z1⟩, st⟩ := Jvm.LawKit.callS X hx (y := y) hown (mvT hZ w1) (mvT hZ w2) (mvT hZ w3) (mvT hZ w4) hy (backOf (Q := fun v h L => Q v h ∧ Fr n0 L) (W := W) (hM []) hZ w4 w3 hfr hlo) hg hsize (argsL := argsL) (rest := rest) hlen hs hW hd (fun _ _ => ⟨rfl, eT, hc, hl⟩)
  dsimp only [Pt.U, Pt.locs, Pt.cells, Pt.slots] at X1 l1 y1 z1 st hQ
  subst l1 y1 z1
  exact own_go (fun t k => st t k) (k v T1 T1.heap ⟨_, X1, rfl, N.app N1⟩ hQ)
theorem own_callV (A : own_At p l e R s m args below meth c n0 T h cells slots) (hx : p.tables.exec = Jvm.exec) (hZ : Z.Warmed39 s.vm) {own C : String} {index : Nat} {y z : MethodName} {bytes : ByteArray} {maxL : Nat} {ret : Option FieldType} (hown : s.vm.findClass own = some m.cls)
    (w1 : (Cond.methodLink own index y).before a0 Z = true) (w2 : (Cond.declares y).before a0 Z = true) (w3 : (Cond.selects C y z).before a0 Z = true) (w4 : (Cond.instanceMethod z).before a0 Z = true) (w5 : (Cond.initialized z.cls).before a0 Z = true) (w6 : (Cond.code z bytes maxL ret).before a0 Z = true) (nf : NotFace s y)
    (hy : y.cls ≠ "java/lang/invoke/MethodHandle" ∧ y.cls ≠ "java/lang/invoke/VarHandle")
    {rm : Room} {b : Addr} {argsL rest : List Value} (E : Exa Z h b C) (hM : own_Met l Z n0 z bytes maxL ret rm (.ref b :: argsL).toArray h Q) (W : Nat) (hfr : rm.frames + 1 ≤ R.frames) (hlo : W + (maxL + 11) + rm.locals ≤ R.locals) {g : JFrame} (hg : g.method = m) (hsize : g.locals.size = c.maxLocals)
    (hlen : ∀ sig, parseMethodDescriptor y.desc = some sig → argsL.length = sig.parameters.length) (hs : g.stack = argsL.reverse ++ .ref b :: rest) (hW : 2 * g.monitorRoom + (rest.map fun v => v.category).sum ≤ W) (hd : decode c.code g.pc = .ok (.invokevirtual index, 3))
    (hc : cells + rm.cells ≤ R.cells) (hl : slots + rm.slots ≤ R.slots)
    (k : ∀ v T' h', own_At p l e R s m args below meth c n0 T' h' (cells + rm.cells) (slots + rm.slots) → Q v h' → own_Go p.tables e below G (T'.setTop { g with pc := g.pc + 3, stack := v.toList ++ rest })) : own_Go p.tables e below G (T.setTop g) := by
  obtain ⟨locs, X, eT, N⟩ := A
  obtain ⟨cq, kq, qa, qb, qc⟩ := isOf hZ eT E
  obtain ⟨v, _, ⟨T1, L1, k1, s1⟩, -, X1, ⟨Lc, ⟨hQ, N1⟩, l1, y1, z1⟩, st⟩ := X.virtualBack hx (y := y) (z := z) hown (mvT hZ w1) (mvT hZ w2) nf (mvT hZ w3) (mvT hZ w4) hy (backOf (Q := fun v h L => Q v h ∧ Fr n0 L) (W := W) (hM []) hZ w6 w5 hfr hlo) qa qc hg hsize (Steps.refl _) (argsL := argsL) (rest := rest) hlen hs hW hd (fun _ _ => ⟨rfl, eT, hc, hl⟩)
  dsimp only [Pt.U, Pt.locs, Pt.cells, Pt.slots] at X1 l1 y1 z1 st hQ
  subst l1 y1 z1
  exact own_go (fun t k => st.trans k) (k v T1 T1.heap ⟨_, X1, rfl, N.app N1⟩ hQ)
theorem own_callI (A : own_At p l e R s m args below meth c n0 T h cells slots) (hx : p.tables.exec = Jvm.exec) (hZ : Z.Warmed39 s.vm) {own : String} {index : Nat} {y : MethodName} (hy1 : y.name = "<init>") {bytes : ByteArray} {maxL : Nat} (hown : s.vm.findClass own = some m.cls)
    (w1 : (Cond.methodLink own index y).before a0 Z = true) (w4 : (Cond.instanceMethod y).before a0 Z = true) (w5 : (Cond.initialized y.cls).before a0 Z = true) (w6 : (Cond.code y bytes maxL none).before a0 Z = true)
    (hy : y.cls ≠ "java/lang/invoke/MethodHandle" ∧ y.cls ≠ "java/lang/invoke/VarHandle")
    {rm : Room} {b : Addr} {argsL rest : List Value} (hM : own_Met l Z n0 y bytes maxL none rm (.ref b :: argsL).toArray h Q) (W : Nat) (hfr : rm.frames + 1 ≤ R.frames) (hlo : W + (maxL + 11) + rm.locals ≤ R.locals) {g : JFrame} (hg : g.method = m) (hsize : g.locals.size = c.maxLocals)
    (hlen : ∀ sig, parseMethodDescriptor y.desc = some sig → argsL.length = sig.parameters.length) (hs : g.stack = argsL.reverse ++ .ref b :: rest) (hW : 2 * g.monitorRoom + (rest.map fun v => v.category).sum ≤ W) (hd : decode c.code g.pc = .ok (.invokespecial index, 3))
    (hc : cells + rm.cells ≤ R.cells) (hl : slots + rm.slots ≤ R.slots)
    (k : ∀ v T' h', own_At p l e R s m args below meth c n0 T' h' (cells + rm.cells) (slots + rm.slots) → Q v h' → own_Go p.tables e below G (T'.setTop { g with pc := g.pc + 3, stack := v.toList ++ rest })) : own_Go p.tables e below G (T.setTop g) := by
  obtain ⟨locs, X, eT, N⟩ := A
  obtain ⟨v, _, ⟨T1, L1, k1, s1⟩, -, X1, ⟨Lc, ⟨hQ, N1⟩, l1, y1, z1⟩, st⟩ := X.specialBack hx (y := y) hy1 hown (mvT hZ w1) (mvT hZ w4) (mvT hZ w6) hy (backOf (Q := fun v h L => Q v h ∧ Fr n0 L) (W := W) (hM []) hZ w6 w5 hfr hlo) hg hsize (Steps.refl _) (a := b) (argsL := argsL) (rest := rest) hlen hs hW hd (fun _ _ => ⟨rfl, eT, hc, hl⟩)
  dsimp only [Pt.U, Pt.locs, Pt.cells, Pt.slots] at X1 l1 y1 z1 st hQ
  subst l1 y1 z1
  exact own_go (fun t k => st.trans k) (k v T1 T1.heap ⟨_, X1, rfl, N.app N1⟩ hQ)
theorem own_initO (A : own_At p l e R s m args below meth c n0 T h cells slots) (hx : p.tables.exec = Jvm.exec) (hZ : Z.Warmed39 s.vm) {own : String} {idx : Nat} (hown : s.vm.findClass own = some m.cls) (w1 : (Cond.methodLink own idx Lib.objectInit).before a0 Z = true) (w2 : (Cond.instanceMethod Lib.objectInit).before a0 Z = true)
    (w3 : (Cond.code Lib.objectInit ⟨#[0xb1]⟩ 1 none).before a0 Z = true) {g : JFrame} (hg : g.method = m) (hsize : g.locals.size = c.maxLocals) {a : Addr} {rest : List Value} (hs : g.stack = .ref a :: rest) (hd : decode c.code g.pc = .ok (.invokespecial idx, 3))
    (hf : 1 ≤ R.frames) (W : Nat) (hW : 2 * g.monitorRoom + (rest.map fun v => v.category).sum ≤ W) (hl : W + 12 ≤ R.locals)
    (k : ∀ T', own_At p l e R s m args below meth c n0 T' h cells slots → own_Go p.tables e below G (T'.setTop { g with pc := g.pc + 3, stack := rest })) : own_Go p.tables e below G (T.setTop g) := by
  obtain ⟨locs, X, eT, N⟩ := A
  obtain ⟨T1, X1, e1, st⟩ := initO X hx hZ hown w1 w2 w3 eT hg hsize hs hd hf hW hl
  exact own_go st (k T1 ⟨_, X1, e1, N⟩)
theorem own_getF (A : own_At p l e R s m args below meth c n0 T h cells slots) (hx : p.tables.exec = Jvm.exec) (hZ : Z.Warmed39 s.vm) {own R0 O n d host : String} {index : Nat} (hown : s.vm.findClass own = some m.cls) (w : (Cond.fieldLink own index R0 n d).before a0 Z = true ∨ (Cond.fieldLinkNest own index R0 n d host).before a0 Z = true) (via : Via Z R0 O n d)
    {a : Addr} {v : Value} (F : Fld Z h a O n d v) {g : JFrame} (hg : g.method = m) {rest : List Value} (hs : g.stack = .ref a :: rest) (hd : decode c.code g.pc = .ok (.getfield index, 3))
    (k : ∀ T', own_At p l e R s m args below meth c n0 T' h cells slots → own_Go p.tables e below G (T'.setTop { g with pc := g.pc + 3, stack := v :: rest })) : own_Go p.tables e below G (T.setTop g) := by
  obtain ⟨locs, X, eT, N⟩ := A
  obtain ⟨T1, X1, e1, st⟩ := getF X hx hZ hown w via eT F hg hs hd
  exact own_go st (k T1 ⟨_, X1, e1, N⟩)
theorem own_getS (A : own_At p l e R s m args below meth c n0 T h cells slots) (hx : p.tables.exec = Jvm.exec) (hZ : Z.Warmed39 s.vm) {own R0 O n d host : String} {index : Nat} (hown : s.vm.findClass own = some m.cls) (w : (Cond.fieldLink own index R0 n d).before a0 Z = true ∨ (Cond.fieldLinkNest own index R0 n d host).before a0 Z = true) (via : Via Z R0 O n d)
    {v : Value} (F : Sta Z h O n d v) {g : JFrame} (hg : g.method = m) (hd : decode c.code g.pc = .ok (.getstatic index, 3))
    (k : ∀ T', own_At p l e R s m args below meth c n0 T' h cells slots → own_Go p.tables e below G (T'.setTop { g with pc := g.pc + 3, stack := v :: g.stack })) : own_Go p.tables e below G (T.setTop g) := by
  obtain ⟨locs, X, eT, N⟩ := A
  obtain ⟨T1, X1, e1, st⟩ := getS2 X hx hZ hown w via eT F hg hd
  exact own_go st (k T1 ⟨_, X1, e1, N⟩)
theorem own_ldcI (A : own_At p l e R s m args below meth c n0 T h cells slots) (hx : p.tables.exec = Jvm.exec) (hZ : Z.Warmed39 s.vm) {own : String} {index : Nat} {v : Int32} (hown : s.vm.findClass own = some m.cls) (w : (Cond.constant own index v).before a0 Z = true) {g : JFrame} (hg : g.method = m) (hd : decode c.code g.pc = .ok (.ldc index, 2))
    (k : own_Go p.tables e below G (T.setTop { g with pc := g.pc + 2, stack := .int v :: g.stack })) : own_Go p.tables e below G (T.setTop g) := by
  obtain ⟨locs, X, eT, N⟩ := A
  exact own_go (X.ldcInt hx hown (mvT hZ w) hg hd) k
theorem own_ldcwI (A : own_At p l e R s m args below meth c n0 T h cells slots) (hx : p.tables.exec = Jvm.exec) (hZ : Z.Warmed39 s.vm) {own : String} {index : Nat} {v : Int32} (hown : s.vm.findClass own = some m.cls) (w : (Cond.constant own index v).before a0 Z = true) {g : JFrame} (hg : g.method = m) (hd : decode c.code g.pc = .ok (.ldc_w index, 3))
    (k : own_Go p.tables e below G (T.setTop { g with pc := g.pc + 3, stack := .int v :: g.stack })) : own_Go p.tables e below G (T.setTop g) := by
  obtain ⟨locs, X, eT, N⟩ := A
  exact own_go (X.ldcwInt hx hown (mvT hZ w) hg hd) k
theorem own_ldcJ (A : own_At p l e R s m args below meth c n0 T h cells slots) (hx : p.tables.exec = Jvm.exec) (hZ : Z.Warmed39 s.vm) {own : String} {index : Nat} {v : Int64} (hown : s.vm.findClass own = some m.cls) (w : (Cond.constantLong own index v).before a0 Z = true) {g : JFrame} (hg : g.method = m) (hd : decode c.code g.pc = .ok (.ldc2_w index, 3))
    (k : own_Go p.tables e below G (T.setTop { g with pc := g.pc + 3, stack := .long v :: g.stack })) : own_Go p.tables e below G (T.setTop g) := by
  obtain ⟨locs, X, eT, N⟩ := A
  exact own_go (X.ldc2Long hx hown (mvT hZ w) hg hd) k
/-- irem, with Java's sign -/
theorem own_irem {tb : Tables} [Ours tb] {target : State} {g : JFrame} (hh : At T m c below) (hx : tb.exec = Jvm.exec) (hg : g.method = m) {x y : Int32} {rest : List Value} (hd : decode c.code g.pc = .ok (.irem, 1)) (hs : g.stack = .int y :: .int x :: rest) (hy : y ≠ 0)
    (hr : Steps tb e below (T.setTop { g with pc := g.pc + 1, stack := .int (x % y) :: rest }) target) : Steps tb e below (T.setTop g) target :=
  XS.irem hh hx hg hd hs hy (by rw [irem_eq_mod]; exact hr)
theorem own_lrem {tb : Tables} [Ours tb] {target : State} {g : JFrame} (hh : At T m c below) (hx : tb.exec = Jvm.exec) (hg : g.method = m) {x y : Int64} {rest : List Value} (hd : decode c.code g.pc = .ok (.lrem, 1)) (hs : g.stack = .long y :: .long x :: rest) (hy : y ≠ 0)
    (hr : Steps tb e below (T.setTop { g with pc := g.pc + 1, stack := .long (x % y) :: rest }) target) : Steps tb e below (T.setTop g) target :=
  XS.lrem hh hx hg hd hs hy (by rw [lrem_mod]; exact hr)
theorem own_aeq {a b : Addr} (h : a = b) : if_acmp.holds .eq (some a) (some b) = true ∧ if_acmp.holds .ne (some a) (some b) = false := by simp [if_acmp.holds, h]
theorem own_ane {a b : Addr} (h : ¬ a = b) : if_acmp.holds .eq (some a) (some b) = false ∧ if_acmp.holds .ne (some a) (some b) = true := by simp [if_acmp.holds, h]
end OwnKit
section OwnSta
variable {s : State} {args : Array Value} {t : Term} {a : Addr} {C n d K : String} {w : Value}
theorem own_eqV {x y : Term} (hh : (Cond.eq x y).value args s none s [] = some true) (hy : y.eval args s none [] s = some w) : x.eval args s none [] s = some w := by
  cases hx : x.eval args s none [] s with
  | none => simp [Cond.value, hx] at hh
  | some v => cases v <;> cases w <;> simp [Cond.value, hx, hy] at hh ⊢ <;> exact hh
theorem own_sta (hh : (Cond.exactly (Term.static C n d) K).value args s none s [] = some true) (w1 : (Cond.initialized C).before args s = true) (w2 : (Cond.laysStatic C n d).before args s = true) :
    ∃ a, Sta s s.heap C n d (.ref a) ∧ Exa s s.heap a K ∧ (Term.static C n d).eval args s none [] s = some (.ref a) := by
  obtain ⟨a, ev⟩ := exa_v hh
  exact ⟨a, Sta.start ev (Or.inr ⟨w1, w2⟩), Exa.start ev hh, ev⟩
theorem own_fldS {y : Term} (hh : (Cond.eq (Term.field t C n d) y).value args s none s [] = some true) (ev : t.eval args s none [] s = some (.ref a)) (hy : y.eval args s none [] s = some w) : Fld s s.heap a C n d w := by
  have q := own_eqV hh hy
  rw [fld_at ev] at q
  exact Fld.start q
theorem own_baloadZ {p : Program} {l : Launch} {e : Env} {R : Room} {m : MethodId} {below : List Frame} {meth : Method} {c : Code} {T : State} {cells slots : Nat} {Z : State} {h : Heap} {n0 : Nat} {G : State → Outcome → Prop} (A : own_At p l e R s m args below meth c n0 T h cells slots) (hx : p.tables.exec = Jvm.exec) (hZ : Z.Warmed39 s.vm) {cl : Cell} {z j : Int32} (F : Tab Z h a cl .boolean z) (hj : ¬ j < 0 ∧ j < z) {g : JFrame} (hg : g.method = m) {rest : List Value} (hs : g.stack = .int j :: .ref a :: rest) (hd : decode c.code g.pc = .ok (.baload, 1))
    (k : own_Go p.tables e below G (T.setTop { g with pc := g.pc + 1, stack := .int (atv cl j) :: rest })) : own_Go p.tables e below G (T.setTop g) := by
  obtain ⟨locs, X, eT, N⟩ := A
  obtain ⟨A1, S1, -, H1⟩ := F
  have hin := inb_of S1 hj
  exact own_go (fun t k => X.baloadBooleans hx (by rw [eT]; exact A1.1) (State.isArrayOf_alike hZ.alike A1.2.1) A1.2.2 hin (H1 j hin) hg hs hd t k) k
end OwnSta
section OwnTab
variable {s : State} {args : Array Value} {t : Term} {w : Addr} {cl : Cell} {z lo hi v i : Int32}
theorem own_lenI (h : (Cond.eq (Term.length t) (Term.int z)).value args s none s [] = some true) (ev : t.eval args s none [] s = some (.ref w)) (hat : s.arrayAt? w = some cl) : cl.slots.size < 2 ^ 31 ∧ cl.slots.size.toInt32 = z := by
  have q := own_eqV h (Term.int_eval z)
  by_cases hl : cl.slots.size < 2 ^ 31
  · rw [len_f ev hat hl] at q
    exact ⟨hl, Value.int.inj (Option.some.inj q)⟩
  · simp [Term.eval, ev, hat, hl] at q
theorem own_allR (hat : s.arrayAt? w = some cl) (evI : ∀ idx, t.eval args s none idx s = some (.ref w)) (TB : Tab s s.heap w cl .boolean z) (h : (Cond.all t (Cond.or (Cond.lt (Term.index 0) (Term.int lo)) (Cond.or (Cond.le (Term.int hi) (Term.index 0)) (Cond.eq (Term.elem t (Term.index 0)) (Term.int v))))).value args s none s [] = some true) (j : Int32) (h0 : ¬ j < 0) (h1 : j < z) : j < lo ∨ ¬ j < hi ∨ atv cl j = v := by
  have hin := inb_of TB.2.1 ⟨h0, h1⟩
  have q := Cond.all_elim (evI []) hat h j.toNatClampNeg (Nat.lt_of_not_le fun y => hin (Or.inr y))
  exact or3 q (Cond.lt_ints (idx_at h0) (Term.int_eval lo)) (Cond.le_ints (Term.int_eval hi) (idx_at h0)) (Cond.eq_ints ((elem_f (evI _) (idx_at h0) hat h0).trans (TB.2.2.2 j hin)) (Term.int_eval v))
theorem own_allL (hat : s.arrayAt? w = some cl) (evI : ∀ idx, t.eval args s none idx s = some (.ref w)) (TB : Tab s s.heap w cl .boolean z) (h : (Cond.all t (Cond.or (Cond.le (Term.int hi) (Term.index 0)) (Cond.eq (Term.elem t (Term.index 0)) (Term.int v)))).value args s none s [] = some true) (j : Int32) (h0 : ¬ j < 0) (h1 : j < z) : hi ≤ j ∨ atv cl j = v := by
  have hin := inb_of TB.2.1 ⟨h0, h1⟩
  have q := Cond.all_elim (evI []) hat h j.toNatClampNeg (Nat.lt_of_not_le fun y => hin (Or.inr y))
  exact or_e2 (Cond.le_ints (Term.int_eval hi) (idx_at h0)) (Cond.eq_ints ((elem_f (evI _) (idx_at h0) hat h0).trans (TB.2.2.2 j hin)) (Term.int_eval v)) q
theorem own_allG (hat : s.arrayAt? w = some cl) (evI : ∀ idx, t.eval args s none idx s = some (.ref w)) (TB : Tab s s.heap w cl .boolean z) (h : (Cond.all t (Cond.or (Cond.lt (Term.index 0) (Term.int lo)) (Cond.eq (Term.elem t (Term.index 0)) (Term.int v)))).value args s none s [] = some true) (j : Int32) (h0 : ¬ j < 0) (h1 : j < z) : j < lo ∨ atv cl j = v := by
  have hin := inb_of TB.2.1 ⟨h0, h1⟩
  have q := Cond.all_elim (evI []) hat h j.toNatClampNeg (Nat.lt_of_not_le fun y => hin (Or.inr y))
  exact or_e2 (Cond.lt_ints (idx_at h0) (Term.int_eval lo)) (Cond.eq_ints ((elem_f (evI _) (idx_at h0) hat h0).trans (TB.2.2.2 j hin)) (Term.int_eval v)) q
theorem own_elt (evI : ∀ idx, t.eval args s none idx s = some (.ref w)) (hc : s.heap[w]? = some cl) (h : (Cond.eq (Term.elem t (Term.int i)) (Term.int v)).value args s none s [] = some true) : atv cl i = v :=
  atv_of (elem_in (own_eqV h (Term.int_eval v)) (evI []) (Term.int_eval i) hc).2
end OwnTab
theorem ef_1 (m : MethodId) (p0 : Int32) : entryFrame m #[(.int p0)] 1 = mkF m 0 #[.val (.int p0)] [] := by first | (simp [entryFrame, mkF, argsToLocals, Value.category]; done) | rfl
theorem pn_1 : plainName "com/example/rublewire/rublewire/rur/ContentCarriesFieldPinLaw" = true := by first | (simp [plainName, overriddenIn]; done) | decide +kernel
theorem d1_0 : decode method_4_code 0 = .ok (.iload_n 0, 1) := by decide +kernel
theorem d1_1 : decode method_4_code 1 = .ok (.ifCond .ne 7, 3) := by decide +kernel
theorem d1_4 : decode method_4_code 4 = .ok (.getstatic 24, 3) := by decide +kernel
theorem d1_7 : decode method_4_code 7 = .ok (.areturn, 1) := by decide +kernel
theorem d1_8 : decode method_4_code 8 = .ok (.iload_n 0, 1) := by decide +kernel
theorem d1_9 : decode method_4_code 9 = .ok (.iconst 1, 1) := by decide +kernel
theorem d1_10 : decode method_4_code 10 = .ok (.if_icmp .ne 7, 3) := by decide +kernel
theorem d1_13 : decode method_4_code 13 = .ok (.getstatic 28, 3) := by decide +kernel
theorem d1_16 : decode method_4_code 16 = .ok (.areturn, 1) := by decide +kernel
theorem d1_17 : decode method_4_code 17 = .ok (.iload_n 0, 1) := by decide +kernel
theorem d1_18 : decode method_4_code 18 = .ok (.iconst 2, 1) := by decide +kernel
theorem d1_19 : decode method_4_code 19 = .ok (.if_icmp .ne 7, 3) := by decide +kernel
theorem d1_22 : decode method_4_code 22 = .ok (.getstatic 31, 3) := by decide +kernel
theorem d1_25 : decode method_4_code 25 = .ok (.areturn, 1) := by decide +kernel
theorem d1_26 : decode method_4_code 26 = .ok (.iload_n 0, 1) := by decide +kernel
theorem d1_27 : decode method_4_code 27 = .ok (.iconst 3, 1) := by decide +kernel
theorem d1_28 : decode method_4_code 28 = .ok (.if_icmp .ne 7, 3) := by decide +kernel
theorem d1_31 : decode method_4_code 31 = .ok (.getstatic 34, 3) := by decide +kernel
theorem d1_34 : decode method_4_code 34 = .ok (.areturn, 1) := by decide +kernel
theorem d1_35 : decode method_4_code 35 = .ok (.iload_n 0, 1) := by decide +kernel
theorem d1_36 : decode method_4_code 36 = .ok (.iconst 4, 1) := by decide +kernel
theorem d1_37 : decode method_4_code 37 = .ok (.if_icmp .ne 7, 3) := by decide +kernel
theorem d1_40 : decode method_4_code 40 = .ok (.getstatic 37, 3) := by decide +kernel
theorem d1_43 : decode method_4_code 43 = .ok (.areturn, 1) := by decide +kernel
theorem d1_44 : decode method_4_code 44 = .ok (.iload_n 0, 1) := by decide +kernel
theorem d1_45 : decode method_4_code 45 = .ok (.iconst 5, 1) := by decide +kernel
theorem d1_46 : decode method_4_code 46 = .ok (.if_icmp .ne 7, 3) := by decide +kernel
theorem d1_49 : decode method_4_code 49 = .ok (.getstatic 40, 3) := by decide +kernel
theorem d1_52 : decode method_4_code 52 = .ok (.areturn, 1) := by decide +kernel
theorem d1_53 : decode method_4_code 53 = .ok (.iload_n 0, 1) := by decide +kernel
theorem d1_54 : decode method_4_code 54 = .ok (.bipush 6, 2) := by decide +kernel
theorem d1_56 : decode method_4_code 56 = .ok (.if_icmp .ne 7, 3) := by decide +kernel
theorem d1_59 : decode method_4_code 59 = .ok (.getstatic 43, 3) := by decide +kernel
theorem d1_62 : decode method_4_code 62 = .ok (.areturn, 1) := by decide +kernel
theorem d1_63 : decode method_4_code 63 = .ok (.iload_n 0, 1) := by decide +kernel
theorem d1_64 : decode method_4_code 64 = .ok (.bipush 7, 2) := by decide +kernel
theorem d1_66 : decode method_4_code 66 = .ok (.if_icmp .ne 7, 3) := by decide +kernel
theorem d1_69 : decode method_4_code 69 = .ok (.getstatic 46, 3) := by decide +kernel
theorem d1_72 : decode method_4_code 72 = .ok (.areturn, 1) := by decide +kernel
theorem d1_73 : decode method_4_code 73 = .ok (.iload_n 0, 1) := by decide +kernel
theorem d1_74 : decode method_4_code 74 = .ok (.bipush 8, 2) := by decide +kernel
theorem d1_76 : decode method_4_code 76 = .ok (.if_icmp .ne 7, 3) := by decide +kernel
theorem d1_79 : decode method_4_code 79 = .ok (.getstatic 49, 3) := by decide +kernel
theorem d1_82 : decode method_4_code 82 = .ok (.areturn, 1) := by decide +kernel
theorem d1_83 : decode method_4_code 83 = .ok (.iload_n 0, 1) := by decide +kernel
theorem d1_84 : decode method_4_code 84 = .ok (.bipush 9, 2) := by decide +kernel
theorem d1_86 : decode method_4_code 86 = .ok (.if_icmp .ne 7, 3) := by decide +kernel
theorem d1_89 : decode method_4_code 89 = .ok (.getstatic 52, 3) := by decide +kernel
theorem d1_92 : decode method_4_code 92 = .ok (.areturn, 1) := by decide +kernel
theorem d1_93 : decode method_4_code 93 = .ok (.getstatic 55, 3) := by decide +kernel
theorem d1_96 : decode method_4_code 96 = .ok (.areturn, 1) := by decide +kernel
def f1 (p0 : Int32) (s_FIXED : Addr) (s_UETR : Addr) (s_CREATED : Addr) (s_REQUISITE : Addr) (s_BIC : Addr) (s_AMOUNT : Addr) (s_LINE : Addr) (s_LINES : Addr) (s_JOINED : Addr) (s_NAME : Addr) (s_PLACE : Addr) : Addr := (if p0 = (0 : Int32) then s_FIXED else (if p0 = (1 : Int32) then s_UETR else (if p0 = (2 : Int32) then s_CREATED else (if p0 = (3 : Int32) then s_REQUISITE else (if p0 = (4 : Int32) then s_BIC else (if p0 = (5 : Int32) then s_AMOUNT else (if p0 = (6 : Int32) then s_LINE else (if p0 = (7 : Int32) then s_LINES else (if p0 = (8 : Int32) then s_JOINED else (if p0 = (9 : Int32) then s_NAME else s_PLACE))))))))))
set_option maxRecDepth 65536 in
set_option maxHeartbeats 40000000 in
theorem rm1 (l : Launch) (Z : State) (a0 : Array Value) (hw : ∀ d ∈ tables_1, d.before a0 Z = true) (p0 : Int32) (s_FIXED : Addr) (s_UETR : Addr) (s_CREATED : Addr) (s_REQUISITE : Addr) (s_BIC : Addr) (s_AMOUNT : Addr) (s_LINE : Addr) (s_LINES : Addr) (s_JOINED : Addr) (s_NAME : Addr) (s_PLACE : Addr) (h0 : Heap) (n0 : Nat) (S_FIXED : Sta Z h0 "com/example/rublewire/rublewire/rur/DocumentLayout$Content" "FIXED" "Lcom/example/rublewire/rublewire/rur/DocumentLayout$Content;" (.ref s_FIXED)) (S_UETR : Sta Z h0 "com/example/rublewire/rublewire/rur/DocumentLayout$Content" "UETR" "Lcom/example/rublewire/rublewire/rur/DocumentLayout$Content;" (.ref s_UETR)) (S_CREATED : Sta Z h0 "com/example/rublewire/rublewire/rur/DocumentLayout$Content" "CREATED" "Lcom/example/rublewire/rublewire/rur/DocumentLayout$Content;" (.ref s_CREATED)) (S_REQUISITE : Sta Z h0 "com/example/rublewire/rublewire/rur/DocumentLayout$Content" "REQUISITE" "Lcom/example/rublewire/rublewire/rur/DocumentLayout$Content;" (.ref s_REQUISITE)) (S_BIC : Sta Z h0 "com/example/rublewire/rublewire/rur/DocumentLayout$Content" "BIC" "Lcom/example/rublewire/rublewire/rur/DocumentLayout$Content;" (.ref s_BIC)) (S_AMOUNT : Sta Z h0 "com/example/rublewire/rublewire/rur/DocumentLayout$Content" "AMOUNT" "Lcom/example/rublewire/rublewire/rur/DocumentLayout$Content;" (.ref s_AMOUNT)) (S_LINE : Sta Z h0 "com/example/rublewire/rublewire/rur/DocumentLayout$Content" "LINE" "Lcom/example/rublewire/rublewire/rur/DocumentLayout$Content;" (.ref s_LINE)) (S_LINES : Sta Z h0 "com/example/rublewire/rublewire/rur/DocumentLayout$Content" "LINES" "Lcom/example/rublewire/rublewire/rur/DocumentLayout$Content;" (.ref s_LINES)) (S_JOINED : Sta Z h0 "com/example/rublewire/rublewire/rur/DocumentLayout$Content" "JOINED" "Lcom/example/rublewire/rublewire/rur/DocumentLayout$Content;" (.ref s_JOINED)) (S_NAME : Sta Z h0 "com/example/rublewire/rublewire/rur/DocumentLayout$Content" "NAME" "Lcom/example/rublewire/rublewire/rur/DocumentLayout$Content;" (.ref s_NAME)) (S_PLACE : Sta Z h0 "com/example/rublewire/rublewire/rur/DocumentLayout$Content" "PLACE" "Lcom/example/rublewire/rublewire/rur/DocumentLayout$Content;" (.ref s_PLACE)) :
    own_Met l Z n0 (⟨"com/example/rublewire/rublewire/rur/ContentCarriesFieldPinLaw", "pick", "(I)Lcom/example/rublewire/rublewire/rur/DocumentLayout$Content;"⟩ : MethodName) method_4_code 1 (some (.object "com/example/rublewire/rublewire/rur/DocumentLayout$Content")) ({ frames := 0, cells := 0, slots := 0, locals := 0 } : Room) #[(.int p0)] h0 (fun v h => v = some (.ref (f1 p0 s_FIXED s_UETR s_CREATED s_REQUISITE s_BIC s_AMOUNT s_LINE s_LINES s_JOINED s_NAME s_PLACE)) ∧ h0 = h) := by
  refine own_met (plainFor_of_name pn_1) ?_
  intro p e s m below meth c T0 hx hby hml hown hnm hret hlk hZ A0
  rw [ef_1]
  show own_Go _ _ _ _ (T0.setTop (mkF m 0 #[.val (.int p0)] []))
  refine own_go (fun t k => XS.iloadN A0.here hx rfl (hb hby d1_0) rfl k) ?_
  show own_Go _ _ _ _ (T0.setTop (mkF m 1 #[.val (.int p0)] [(.int p0)]))
  by_cases hc1 : p0 = (0 : Int32)
  ·
    refine own_go (fun t k => XS.ifNo A0.here hx rfl (hb hby d1_1) rfl ((if0 _ _).trans (teq hc1).2) k) ?_
    show own_Go _ _ _ _ (T0.setTop (mkF m 4 #[.val (.int p0)] []))
    refine own_getS A0 hx hZ hown (host := "") (Or.inl (hw _ (List.mem_of_getElem? (i := 5) rfl))) Via.refl S_FIXED rfl (hb hby d1_4) (fun T2 A3 => ?_)
    show own_Go _ _ _ _ (T2.setTop (mkF m 7 #[.val (.int p0)] [(.ref s_FIXED)]))
    refine own_retA A3 hx hret rfl hlk (by decide) (by decide) rfl (hb hby d1_7) ?_
    exact ⟨congrArg (fun z => some (Value.ref z)) (by simp only [f1, if_pos hc1]), rfl⟩
  ·
    refine own_go (fun t k => XS.ifYes A0.here hx rfl (pc0 := 1) (pc' := 8) rfl (hb hby d1_1) rfl ((if0 _ _).trans (feq hc1).2) (by decide) (by decide) k) ?_
    show own_Go _ _ _ _ (T0.setTop (mkF m 8 #[.val (.int p0)] []))
    refine own_go (fun t k => XS.iloadN A0.here hx rfl (hb hby d1_8) rfl k) ?_
    show own_Go _ _ _ _ (T0.setTop (mkF m 9 #[.val (.int p0)] [(.int p0)]))
    refine own_go (fun t k => XS.iconst A0.here hx rfl (hb hby d1_9) k) ?_
    show own_Go _ _ _ _ (T0.setTop (mkF m 10 #[.val (.int p0)] [(.int (1 : Int32)), (.int p0)]))
    by_cases hc4 : p0 = (1 : Int32)
    ·
      refine own_go (fun t k => XS.icmpNo A0.here hx rfl (hb hby d1_10) rfl (teq hc4).2 k) ?_
      show own_Go _ _ _ _ (T0.setTop (mkF m 13 #[.val (.int p0)] []))
      refine own_getS A0 hx hZ hown (host := "") (Or.inl (hw _ (List.mem_of_getElem? (i := 33) rfl))) Via.refl S_UETR rfl (hb hby d1_13) (fun T5 A6 => ?_)
      show own_Go _ _ _ _ (T5.setTop (mkF m 16 #[.val (.int p0)] [(.ref s_UETR)]))
      refine own_retA A6 hx hret rfl hlk (by decide) (by decide) rfl (hb hby d1_16) ?_
      exact ⟨congrArg (fun z => some (Value.ref z)) (by simp only [f1, if_neg hc1, if_pos hc4]), rfl⟩
    ·
      refine own_go (fun t k => XS.icmpYes A0.here hx rfl (pc0 := 10) (pc' := 17) rfl (hb hby d1_10) rfl (feq hc4).2 (by decide) (by decide) k) ?_
      show own_Go _ _ _ _ (T0.setTop (mkF m 17 #[.val (.int p0)] []))
      refine own_go (fun t k => XS.iloadN A0.here hx rfl (hb hby d1_17) rfl k) ?_
      show own_Go _ _ _ _ (T0.setTop (mkF m 18 #[.val (.int p0)] [(.int p0)]))
      refine own_go (fun t k => XS.iconst A0.here hx rfl (hb hby d1_18) k) ?_
      show own_Go _ _ _ _ (T0.setTop (mkF m 19 #[.val (.int p0)] [(.int (2 : Int32)), (.int p0)]))
      by_cases hc7 : p0 = (2 : Int32)
      ·
        refine own_go (fun t k => XS.icmpNo A0.here hx rfl (hb hby d1_19) rfl (teq hc7).2 k) ?_
        show own_Go _ _ _ _ (T0.setTop (mkF m 22 #[.val (.int p0)] []))
        refine own_getS A0 hx hZ hown (host := "") (Or.inl (hw _ (List.mem_of_getElem? (i := 30) rfl))) Via.refl S_CREATED rfl (hb hby d1_22) (fun T8 A9 => ?_)
        show own_Go _ _ _ _ (T8.setTop (mkF m 25 #[.val (.int p0)] [(.ref s_CREATED)]))
        refine own_retA A9 hx hret rfl hlk (by decide) (by decide) rfl (hb hby d1_25) ?_
        exact ⟨congrArg (fun z => some (Value.ref z)) (by simp only [f1, if_neg hc1, if_neg hc4, if_pos hc7]), rfl⟩
      ·
        refine own_go (fun t k => XS.icmpYes A0.here hx rfl (pc0 := 19) (pc' := 26) rfl (hb hby d1_19) rfl (feq hc7).2 (by decide) (by decide) k) ?_
        show own_Go _ _ _ _ (T0.setTop (mkF m 26 #[.val (.int p0)] []))
        refine own_go (fun t k => XS.iloadN A0.here hx rfl (hb hby d1_26) rfl k) ?_
        show own_Go _ _ _ _ (T0.setTop (mkF m 27 #[.val (.int p0)] [(.int p0)]))
        refine own_go (fun t k => XS.iconst A0.here hx rfl (hb hby d1_27) k) ?_
        show own_Go _ _ _ _ (T0.setTop (mkF m 28 #[.val (.int p0)] [(.int (3 : Int32)), (.int p0)]))
        by_cases hc10 : p0 = (3 : Int32)
        ·
          refine own_go (fun t k => XS.icmpNo A0.here hx rfl (hb hby d1_28) rfl (teq hc10).2 k) ?_
          show own_Go _ _ _ _ (T0.setTop (mkF m 31 #[.val (.int p0)] []))
          refine own_getS A0 hx hZ hown (host := "") (Or.inl (hw _ (List.mem_of_getElem? (i := 26) rfl))) Via.refl S_REQUISITE rfl (hb hby d1_31) (fun T11 A12 => ?_)
          show own_Go _ _ _ _ (T11.setTop (mkF m 34 #[.val (.int p0)] [(.ref s_REQUISITE)]))
          refine own_retA A12 hx hret rfl hlk (by decide) (by decide) rfl (hb hby d1_34) ?_
          exact ⟨congrArg (fun z => some (Value.ref z)) (by simp only [f1, if_neg hc1, if_neg hc4, if_neg hc7, if_pos hc10]), rfl⟩
        ·
          refine own_go (fun t k => XS.icmpYes A0.here hx rfl (pc0 := 28) (pc' := 35) rfl (hb hby d1_28) rfl (feq hc10).2 (by decide) (by decide) k) ?_
          show own_Go _ _ _ _ (T0.setTop (mkF m 35 #[.val (.int p0)] []))
          refine own_go (fun t k => XS.iloadN A0.here hx rfl (hb hby d1_35) rfl k) ?_
          show own_Go _ _ _ _ (T0.setTop (mkF m 36 #[.val (.int p0)] [(.int p0)]))
          refine own_go (fun t k => XS.iconst A0.here hx rfl (hb hby d1_36) k) ?_
          show own_Go _ _ _ _ (T0.setTop (mkF m 37 #[.val (.int p0)] [(.int (4 : Int32)), (.int p0)]))
          by_cases hc13 : p0 = (4 : Int32)
          ·
            refine own_go (fun t k => XS.icmpNo A0.here hx rfl (hb hby d1_37) rfl (teq hc13).2 k) ?_
            show own_Go _ _ _ _ (T0.setTop (mkF m 40 #[.val (.int p0)] []))
            refine own_getS A0 hx hZ hown (host := "") (Or.inl (hw _ (List.mem_of_getElem? (i := 39) rfl))) Via.refl S_BIC rfl (hb hby d1_40) (fun T14 A15 => ?_)
            show own_Go _ _ _ _ (T14.setTop (mkF m 43 #[.val (.int p0)] [(.ref s_BIC)]))
            refine own_retA A15 hx hret rfl hlk (by decide) (by decide) rfl (hb hby d1_43) ?_
            exact ⟨congrArg (fun z => some (Value.ref z)) (by simp only [f1, if_neg hc1, if_neg hc4, if_neg hc7, if_neg hc10, if_pos hc13]), rfl⟩
          ·
            refine own_go (fun t k => XS.icmpYes A0.here hx rfl (pc0 := 37) (pc' := 44) rfl (hb hby d1_37) rfl (feq hc13).2 (by decide) (by decide) k) ?_
            show own_Go _ _ _ _ (T0.setTop (mkF m 44 #[.val (.int p0)] []))
            refine own_go (fun t k => XS.iloadN A0.here hx rfl (hb hby d1_44) rfl k) ?_
            show own_Go _ _ _ _ (T0.setTop (mkF m 45 #[.val (.int p0)] [(.int p0)]))
            refine own_go (fun t k => XS.iconst A0.here hx rfl (hb hby d1_45) k) ?_
            show own_Go _ _ _ _ (T0.setTop (mkF m 46 #[.val (.int p0)] [(.int (5 : Int32)), (.int p0)]))
            by_cases hc16 : p0 = (5 : Int32)
            ·
              refine own_go (fun t k => XS.icmpNo A0.here hx rfl (hb hby d1_46) rfl (teq hc16).2 k) ?_
              show own_Go _ _ _ _ (T0.setTop (mkF m 49 #[.val (.int p0)] []))
              refine own_getS A0 hx hZ hown (host := "") (Or.inl (hw _ (List.mem_of_getElem? (i := 36) rfl))) Via.refl S_AMOUNT rfl (hb hby d1_49) (fun T17 A18 => ?_)
              show own_Go _ _ _ _ (T17.setTop (mkF m 52 #[.val (.int p0)] [(.ref s_AMOUNT)]))
              refine own_retA A18 hx hret rfl hlk (by decide) (by decide) rfl (hb hby d1_52) ?_
              exact ⟨congrArg (fun z => some (Value.ref z)) (by simp only [f1, if_neg hc1, if_neg hc4, if_neg hc7, if_neg hc10, if_neg hc13, if_pos hc16]), rfl⟩
            ·
              refine own_go (fun t k => XS.icmpYes A0.here hx rfl (pc0 := 46) (pc' := 53) rfl (hb hby d1_46) rfl (feq hc16).2 (by decide) (by decide) k) ?_
              show own_Go _ _ _ _ (T0.setTop (mkF m 53 #[.val (.int p0)] []))
              refine own_go (fun t k => XS.iloadN A0.here hx rfl (hb hby d1_53) rfl k) ?_
              show own_Go _ _ _ _ (T0.setTop (mkF m 54 #[.val (.int p0)] [(.int p0)]))
              refine own_go (fun t k => XS.bipush A0.here hx rfl (hb hby d1_54) k) ?_
              show own_Go _ _ _ _ (T0.setTop (mkF m 56 #[.val (.int p0)] [(.int (6 : Int32)), (.int p0)]))
              by_cases hc19 : p0 = (6 : Int32)
              ·
                refine own_go (fun t k => XS.icmpNo A0.here hx rfl (hb hby d1_56) rfl (teq hc19).2 k) ?_
                show own_Go _ _ _ _ (T0.setTop (mkF m 59 #[.val (.int p0)] []))
                refine own_getS A0 hx hZ hown (host := "") (Or.inl (hw _ (List.mem_of_getElem? (i := 38) rfl))) Via.refl S_LINE rfl (hb hby d1_59) (fun T20 A21 => ?_)
                show own_Go _ _ _ _ (T20.setTop (mkF m 62 #[.val (.int p0)] [(.ref s_LINE)]))
                refine own_retA A21 hx hret rfl hlk (by decide) (by decide) rfl (hb hby d1_62) ?_
                exact ⟨congrArg (fun z => some (Value.ref z)) (by simp only [f1, if_neg hc1, if_neg hc4, if_neg hc7, if_neg hc10, if_neg hc13, if_neg hc16, if_pos hc19]), rfl⟩
              ·
                refine own_go (fun t k => XS.icmpYes A0.here hx rfl (pc0 := 56) (pc' := 63) rfl (hb hby d1_56) rfl (feq hc19).2 (by decide) (by decide) k) ?_
                show own_Go _ _ _ _ (T0.setTop (mkF m 63 #[.val (.int p0)] []))
                refine own_go (fun t k => XS.iloadN A0.here hx rfl (hb hby d1_63) rfl k) ?_
                show own_Go _ _ _ _ (T0.setTop (mkF m 64 #[.val (.int p0)] [(.int p0)]))
                refine own_go (fun t k => XS.bipush A0.here hx rfl (hb hby d1_64) k) ?_
                show own_Go _ _ _ _ (T0.setTop (mkF m 66 #[.val (.int p0)] [(.int (7 : Int32)), (.int p0)]))
                by_cases hc22 : p0 = (7 : Int32)
                ·
                  refine own_go (fun t k => XS.icmpNo A0.here hx rfl (hb hby d1_66) rfl (teq hc22).2 k) ?_
                  show own_Go _ _ _ _ (T0.setTop (mkF m 69 #[.val (.int p0)] []))
                  refine own_getS A0 hx hZ hown (host := "") (Or.inl (hw _ (List.mem_of_getElem? (i := 28) rfl))) Via.refl S_LINES rfl (hb hby d1_69) (fun T23 A24 => ?_)
                  show own_Go _ _ _ _ (T23.setTop (mkF m 72 #[.val (.int p0)] [(.ref s_LINES)]))
                  refine own_retA A24 hx hret rfl hlk (by decide) (by decide) rfl (hb hby d1_72) ?_
                  exact ⟨congrArg (fun z => some (Value.ref z)) (by simp only [f1, if_neg hc1, if_neg hc4, if_neg hc7, if_neg hc10, if_neg hc13, if_neg hc16, if_neg hc19, if_pos hc22]), rfl⟩
                ·
                  refine own_go (fun t k => XS.icmpYes A0.here hx rfl (pc0 := 66) (pc' := 73) rfl (hb hby d1_66) rfl (feq hc22).2 (by decide) (by decide) k) ?_
                  show own_Go _ _ _ _ (T0.setTop (mkF m 73 #[.val (.int p0)] []))
                  refine own_go (fun t k => XS.iloadN A0.here hx rfl (hb hby d1_73) rfl k) ?_
                  show own_Go _ _ _ _ (T0.setTop (mkF m 74 #[.val (.int p0)] [(.int p0)]))
                  refine own_go (fun t k => XS.bipush A0.here hx rfl (hb hby d1_74) k) ?_
                  show own_Go _ _ _ _ (T0.setTop (mkF m 76 #[.val (.int p0)] [(.int (8 : Int32)), (.int p0)]))
                  by_cases hc25 : p0 = (8 : Int32)
                  ·
                    refine own_go (fun t k => XS.icmpNo A0.here hx rfl (hb hby d1_76) rfl (teq hc25).2 k) ?_
                    show own_Go _ _ _ _ (T0.setTop (mkF m 79 #[.val (.int p0)] []))
                    refine own_getS A0 hx hZ hown (host := "") (Or.inl (hw _ (List.mem_of_getElem? (i := 29) rfl))) Via.refl S_JOINED rfl (hb hby d1_79) (fun T26 A27 => ?_)
                    show own_Go _ _ _ _ (T26.setTop (mkF m 82 #[.val (.int p0)] [(.ref s_JOINED)]))
                    refine own_retA A27 hx hret rfl hlk (by decide) (by decide) rfl (hb hby d1_82) ?_
                    exact ⟨congrArg (fun z => some (Value.ref z)) (by simp only [f1, if_neg hc1, if_neg hc4, if_neg hc7, if_neg hc10, if_neg hc13, if_neg hc16, if_neg hc19, if_neg hc22, if_pos hc25]), rfl⟩
                  ·
                    refine own_go (fun t k => XS.icmpYes A0.here hx rfl (pc0 := 76) (pc' := 83) rfl (hb hby d1_76) rfl (feq hc25).2 (by decide) (by decide) k) ?_
                    show own_Go _ _ _ _ (T0.setTop (mkF m 83 #[.val (.int p0)] []))
                    refine own_go (fun t k => XS.iloadN A0.here hx rfl (hb hby d1_83) rfl k) ?_
                    show own_Go _ _ _ _ (T0.setTop (mkF m 84 #[.val (.int p0)] [(.int p0)]))
                    refine own_go (fun t k => XS.bipush A0.here hx rfl (hb hby d1_84) k) ?_
                    show own_Go _ _ _ _ (T0.setTop (mkF m 86 #[.val (.int p0)] [(.int (9 : Int32)), (.int p0)]))
                    by_cases hc28 : p0 = (9 : Int32)
                    ·
                      refine own_go (fun t k => XS.icmpNo A0.here hx rfl (hb hby d1_86) rfl (teq hc28).2 k) ?_
                      show own_Go _ _ _ _ (T0.setTop (mkF m 89 #[.val (.int p0)] []))
                      refine own_getS A0 hx hZ hown (host := "") (Or.inl (hw _ (List.mem_of_getElem? (i := 35) rfl))) Via.refl S_NAME rfl (hb hby d1_89) (fun T29 A30 => ?_)
                      show own_Go _ _ _ _ (T29.setTop (mkF m 92 #[.val (.int p0)] [(.ref s_NAME)]))
                      refine own_retA A30 hx hret rfl hlk (by decide) (by decide) rfl (hb hby d1_92) ?_
                      exact ⟨congrArg (fun z => some (Value.ref z)) (by simp only [f1, if_neg hc1, if_neg hc4, if_neg hc7, if_neg hc10, if_neg hc13, if_neg hc16, if_neg hc19, if_neg hc22, if_neg hc25, if_pos hc28]), rfl⟩
                    ·
                      refine own_go (fun t k => XS.icmpYes A0.here hx rfl (pc0 := 86) (pc' := 93) rfl (hb hby d1_86) rfl (feq hc28).2 (by decide) (by decide) k) ?_
                      show own_Go _ _ _ _ (T0.setTop (mkF m 93 #[.val (.int p0)] []))
                      refine own_getS A0 hx hZ hown (host := "") (Or.inl (hw _ (List.mem_of_getElem? (i := 32) rfl))) Via.refl S_PLACE rfl (hb hby d1_93) (fun T31 A32 => ?_)
                      show own_Go _ _ _ _ (T31.setTop (mkF m 96 #[.val (.int p0)] [(.ref s_PLACE)]))
                      refine own_retA A32 hx hret rfl hlk (by decide) (by decide) rfl (hb hby d1_96) ?_
                      exact ⟨congrArg (fun z => some (Value.ref z)) (by simp only [f1, if_neg hc1, if_neg hc4, if_neg hc7, if_neg hc10, if_neg hc13, if_neg hc16, if_neg hc19, if_neg hc22, if_neg hc25, if_neg hc28]), rfl⟩
theorem ef_2 (m : MethodId) (p0 : Int32) : entryFrame m #[(.int p0)] 1 = mkF m 0 #[.val (.int p0)] [] := by first | (simp [entryFrame, mkF, argsToLocals, Value.category]; done) | rfl
theorem d2_0 : decode method_3_code 0 = .ok (.iload_n 0, 1) := by decide +kernel
theorem d2_1 : decode method_3_code 1 = .ok (.iconst 5, 1) := by decide +kernel
theorem d2_2 : decode method_3_code 2 = .ok (.if_icmp .gt 5, 3) := by decide +kernel
theorem d2_7 : decode method_3_code 7 = .ok (.iconst 1, 1) := by decide +kernel
theorem d2_8 : decode method_3_code 8 = .ok (.ireturn, 1) := by decide +kernel
theorem d2_5 : decode method_3_code 5 = .ok (.iconst 0, 1) := by decide +kernel
theorem d2_6 : decode method_3_code 6 = .ok (.ireturn, 1) := by decide +kernel
def f2 (p0 : Int32) : Int32 := (if (5 : Int32) < p0 then (1 : Int32) else (0 : Int32))
set_option maxRecDepth 65536 in
set_option maxHeartbeats 40000000 in
theorem rm2 (l : Launch) (Z : State) (a0 : Array Value) (hw : ∀ d ∈ tables_1, d.before a0 Z = true) (p0 : Int32) (h0 : Heap) (n0 : Nat) :
    own_Met l Z n0 (⟨"com/example/rublewire/rublewire/rur/ContentCarriesFieldPinLaw", "expected", "(I)Z"⟩ : MethodName) method_3_code 1 (some .boolean) ({ frames := 0, cells := 0, slots := 0, locals := 0 } : Room) #[(.int p0)] h0 (fun v h => v = some (.int (f2 p0)) ∧ h0 = h) := by
  refine own_met (plainFor_of_name pn_1) ?_
  intro p e s m below meth c T0 hx hby hml hown hnm hret hlk hZ A0
  rw [ef_2]
  show own_Go _ _ _ _ (T0.setTop (mkF m 0 #[.val (.int p0)] []))
  refine own_go (fun t k => XS.iloadN A0.here hx rfl (hb hby d2_0) rfl k) ?_
  show own_Go _ _ _ _ (T0.setTop (mkF m 1 #[.val (.int p0)] [(.int p0)]))
  refine own_go (fun t k => XS.iconst A0.here hx rfl (hb hby d2_1) k) ?_
  show own_Go _ _ _ _ (T0.setTop (mkF m 2 #[.val (.int p0)] [(.int (5 : Int32)), (.int p0)]))
  by_cases hc1 : (5 : Int32) < p0
  ·
    refine own_go (fun t k => XS.icmpYes A0.here hx rfl (pc0 := 2) (pc' := 7) rfl (hb hby d2_2) rfl (tlt hc1).2.2.1 (by decide) (by decide) k) ?_
    show own_Go _ _ _ _ (T0.setTop (mkF m 7 #[.val (.int p0)] []))
    refine own_go (fun t k => XS.iconst A0.here hx rfl (hb hby d2_7) k) ?_
    show own_Go _ _ _ _ (T0.setTop (mkF m 8 #[.val (.int p0)] [(.int (1 : Int32))]))
    refine own_retN A0 hx (t := .boolean) hret (by simp) hlk (by decide) (by decide) (hb hby d2_8) ?_
    exact ⟨congrArg (fun z => some (Value.int z)) (by simp only [f2, if_pos hc1] <;> rfl), rfl⟩
  ·
    refine own_go (fun t k => XS.icmpNo A0.here hx rfl (hb hby d2_2) rfl (flt hc1).2.2.1 k) ?_
    show own_Go _ _ _ _ (T0.setTop (mkF m 5 #[.val (.int p0)] []))
    refine own_go (fun t k => XS.iconst A0.here hx rfl (hb hby d2_5) k) ?_
    show own_Go _ _ _ _ (T0.setTop (mkF m 6 #[.val (.int p0)] [(.int (0 : Int32))]))
    refine own_retN A0 hx (t := .boolean) hret (by simp) hlk (by decide) (by decide) (hb hby d2_6) ?_
    exact ⟨congrArg (fun z => some (Value.int z)) (by simp only [f2, if_neg hc1] <;> rfl), rfl⟩
theorem ef_3 (m : MethodId) (r0 : Addr) : entryFrame m #[(.ref r0)] 1 = mkF m 0 #[.val (.ref r0)] [] := by first | (simp [entryFrame, mkF, argsToLocals, Value.category]; done) | rfl
theorem pn_3 : plainName "com/example/rublewire/rublewire/rur/DocumentLayout$Content" = true := by first | (simp [plainName, overriddenIn]; done) | decide +kernel
theorem d3_0 : decode prog_60_method_4_code 0 = .ok (.aload_n 0, 1) := by decide +kernel
theorem d3_1 : decode prog_60_method_4_code 1 = .ok (.getstatic 22, 3) := by decide +kernel
theorem d3_4 : decode prog_60_method_4_code 4 = .ok (.if_acmp .eq 31, 3) := by decide +kernel
theorem d3_35 : decode prog_60_method_4_code 35 = .ok (.iconst 1, 1) := by decide +kernel
theorem d3_36 : decode prog_60_method_4_code 36 = .ok (.goto 4, 3) := by decide +kernel
theorem d3_40 : decode prog_60_method_4_code 40 = .ok (.ireturn, 1) := by decide +kernel
theorem d3_7 : decode prog_60_method_4_code 7 = .ok (.aload_n 0, 1) := by decide +kernel
theorem d3_8 : decode prog_60_method_4_code 8 = .ok (.getstatic 25, 3) := by decide +kernel
theorem d3_11 : decode prog_60_method_4_code 11 = .ok (.if_acmp .eq 24, 3) := by decide +kernel
theorem d3_14 : decode prog_60_method_4_code 14 = .ok (.aload_n 0, 1) := by decide +kernel
theorem d3_15 : decode prog_60_method_4_code 15 = .ok (.getstatic 28, 3) := by decide +kernel
theorem d3_18 : decode prog_60_method_4_code 18 = .ok (.if_acmp .eq 17, 3) := by decide +kernel
theorem d3_21 : decode prog_60_method_4_code 21 = .ok (.aload_n 0, 1) := by decide +kernel
theorem d3_22 : decode prog_60_method_4_code 22 = .ok (.getstatic 31, 3) := by decide +kernel
theorem d3_25 : decode prog_60_method_4_code 25 = .ok (.if_acmp .eq 10, 3) := by decide +kernel
theorem d3_28 : decode prog_60_method_4_code 28 = .ok (.aload_n 0, 1) := by decide +kernel
theorem d3_29 : decode prog_60_method_4_code 29 = .ok (.getstatic 34, 3) := by decide +kernel
theorem d3_32 : decode prog_60_method_4_code 32 = .ok (.if_acmp .ne 7, 3) := by decide +kernel
theorem d3_39 : decode prog_60_method_4_code 39 = .ok (.iconst 0, 1) := by decide +kernel
def f3 (r0 : Addr) (s_LINE : Addr) (s_LINES : Addr) (s_JOINED : Addr) (s_NAME : Addr) (s_PLACE : Addr) : Int32 := (if r0 = s_LINE then (1 : Int32) else (if r0 = s_LINES then (1 : Int32) else (if r0 = s_JOINED then (1 : Int32) else (if r0 = s_NAME then (1 : Int32) else (nar .boolean (if r0 = s_PLACE then (1 : Int32) else (0 : Int32)))))))
set_option maxRecDepth 65536 in
set_option maxHeartbeats 40000000 in
theorem rm3 (l : Launch) (Z : State) (a0 : Array Value) (hw : ∀ d ∈ tables_1, d.before a0 Z = true) (r0 : Addr) (s_LINE : Addr) (s_LINES : Addr) (s_JOINED : Addr) (s_NAME : Addr) (s_PLACE : Addr) (h0 : Heap) (n0 : Nat) (S_LINE : Sta Z h0 "com/example/rublewire/rublewire/rur/DocumentLayout$Content" "LINE" "Lcom/example/rublewire/rublewire/rur/DocumentLayout$Content;" (.ref s_LINE)) (S_LINES : Sta Z h0 "com/example/rublewire/rublewire/rur/DocumentLayout$Content" "LINES" "Lcom/example/rublewire/rublewire/rur/DocumentLayout$Content;" (.ref s_LINES)) (S_JOINED : Sta Z h0 "com/example/rublewire/rublewire/rur/DocumentLayout$Content" "JOINED" "Lcom/example/rublewire/rublewire/rur/DocumentLayout$Content;" (.ref s_JOINED)) (S_NAME : Sta Z h0 "com/example/rublewire/rublewire/rur/DocumentLayout$Content" "NAME" "Lcom/example/rublewire/rublewire/rur/DocumentLayout$Content;" (.ref s_NAME)) (S_PLACE : Sta Z h0 "com/example/rublewire/rublewire/rur/DocumentLayout$Content" "PLACE" "Lcom/example/rublewire/rublewire/rur/DocumentLayout$Content;" (.ref s_PLACE)) :
    own_Met l Z n0 (⟨"com/example/rublewire/rublewire/rur/DocumentLayout$Content", "carriesField", "()Z"⟩ : MethodName) prog_60_method_4_code 1 (some .boolean) ({ frames := 0, cells := 0, slots := 0, locals := 0 } : Room) #[(.ref r0)] h0 (fun v h => v = some (.int (f3 r0 s_LINE s_LINES s_JOINED s_NAME s_PLACE)) ∧ h0 = h) := by
  refine own_met (plainFor_of_name pn_3) ?_
  intro p e s m below meth c T0 hx hby hml hown hnm hret hlk hZ A0
  rw [ef_3]
  show own_Go _ _ _ _ (T0.setTop (mkF m 0 #[.val (.ref r0)] []))
  refine own_go (fun t k => XS.aloadN A0.here hx rfl (hb hby d3_0) rfl rfl k) ?_
  show own_Go _ _ _ _ (T0.setTop (mkF m 1 #[.val (.ref r0)] [(.ref r0)]))
  refine own_getS A0 hx hZ hown (host := "") (Or.inl (hw _ (List.mem_of_getElem? (i := 16) rfl))) Via.refl S_LINE rfl (hb hby d3_1) (fun T1 A2 => ?_)
  show own_Go _ _ _ _ (T1.setTop (mkF m 4 #[.val (.ref r0)] [(.ref s_LINE), (.ref r0)]))
  by_cases hc3 : r0 = s_LINE
  ·
    refine own_go (fun t k => XS.acmpYes A2.here hx rfl (pc0 := 4) (pc' := 35) rfl (hb hby d3_4) rfl (own_aeq hc3).1 (by decide) (by decide) k) ?_
    show own_Go _ _ _ _ (T1.setTop (mkF m 35 #[.val (.ref r0)] []))
    refine own_go (fun t k => XS.iconst A2.here hx rfl (hb hby d3_35) k) ?_
    show own_Go _ _ _ _ (T1.setTop (mkF m 36 #[.val (.ref r0)] [(.int (1 : Int32))]))
    refine own_go (fun t k => XS.goto A2.here hx rfl (pc0 := 36) (pc' := 40) rfl (hb hby d3_36) (by decide) (by decide) k) ?_
    show own_Go _ _ _ _ (T1.setTop (mkF m 40 #[.val (.ref r0)] [(.int (1 : Int32))]))
    refine own_retN A2 hx (t := .boolean) hret (by simp) hlk (by decide) (by decide) (hb hby d3_40) ?_
    exact ⟨congrArg (fun z => some (Value.int z)) (by simp only [f3, if_pos hc3] <;> rfl), rfl⟩
  ·
    refine own_go (fun t k => XS.acmpNo A2.here hx rfl (hb hby d3_4) rfl (own_ane hc3).1 k) ?_
    show own_Go _ _ _ _ (T1.setTop (mkF m 7 #[.val (.ref r0)] []))
    refine own_go (fun t k => XS.aloadN A2.here hx rfl (hb hby d3_7) rfl rfl k) ?_
    show own_Go _ _ _ _ (T1.setTop (mkF m 8 #[.val (.ref r0)] [(.ref r0)]))
    refine own_getS A2 hx hZ hown (host := "") (Or.inl (hw _ (List.mem_of_getElem? (i := 18) rfl))) Via.refl S_LINES rfl (hb hby d3_8) (fun T4 A5 => ?_)
    show own_Go _ _ _ _ (T4.setTop (mkF m 11 #[.val (.ref r0)] [(.ref s_LINES), (.ref r0)]))
    by_cases hc6 : r0 = s_LINES
    ·
      refine own_go (fun t k => XS.acmpYes A5.here hx rfl (pc0 := 11) (pc' := 35) rfl (hb hby d3_11) rfl (own_aeq hc6).1 (by decide) (by decide) k) ?_
      show own_Go _ _ _ _ (T4.setTop (mkF m 35 #[.val (.ref r0)] []))
      refine own_go (fun t k => XS.iconst A5.here hx rfl (hb hby d3_35) k) ?_
      show own_Go _ _ _ _ (T4.setTop (mkF m 36 #[.val (.ref r0)] [(.int (1 : Int32))]))
      refine own_go (fun t k => XS.goto A5.here hx rfl (pc0 := 36) (pc' := 40) rfl (hb hby d3_36) (by decide) (by decide) k) ?_
      show own_Go _ _ _ _ (T4.setTop (mkF m 40 #[.val (.ref r0)] [(.int (1 : Int32))]))
      refine own_retN A5 hx (t := .boolean) hret (by simp) hlk (by decide) (by decide) (hb hby d3_40) ?_
      exact ⟨congrArg (fun z => some (Value.int z)) (by simp only [f3, if_neg hc3, if_pos hc6] <;> rfl), rfl⟩
    ·
      refine own_go (fun t k => XS.acmpNo A5.here hx rfl (hb hby d3_11) rfl (own_ane hc6).1 k) ?_
      show own_Go _ _ _ _ (T4.setTop (mkF m 14 #[.val (.ref r0)] []))
      refine own_go (fun t k => XS.aloadN A5.here hx rfl (hb hby d3_14) rfl rfl k) ?_
      show own_Go _ _ _ _ (T4.setTop (mkF m 15 #[.val (.ref r0)] [(.ref r0)]))
      refine own_getS A5 hx hZ hown (host := "") (Or.inl (hw _ (List.mem_of_getElem? (i := 20) rfl))) Via.refl S_JOINED rfl (hb hby d3_15) (fun T7 A8 => ?_)
      show own_Go _ _ _ _ (T7.setTop (mkF m 18 #[.val (.ref r0)] [(.ref s_JOINED), (.ref r0)]))
      by_cases hc9 : r0 = s_JOINED
      ·
        refine own_go (fun t k => XS.acmpYes A8.here hx rfl (pc0 := 18) (pc' := 35) rfl (hb hby d3_18) rfl (own_aeq hc9).1 (by decide) (by decide) k) ?_
        show own_Go _ _ _ _ (T7.setTop (mkF m 35 #[.val (.ref r0)] []))
        refine own_go (fun t k => XS.iconst A8.here hx rfl (hb hby d3_35) k) ?_
        show own_Go _ _ _ _ (T7.setTop (mkF m 36 #[.val (.ref r0)] [(.int (1 : Int32))]))
        refine own_go (fun t k => XS.goto A8.here hx rfl (pc0 := 36) (pc' := 40) rfl (hb hby d3_36) (by decide) (by decide) k) ?_
        show own_Go _ _ _ _ (T7.setTop (mkF m 40 #[.val (.ref r0)] [(.int (1 : Int32))]))
        refine own_retN A8 hx (t := .boolean) hret (by simp) hlk (by decide) (by decide) (hb hby d3_40) ?_
        exact ⟨congrArg (fun z => some (Value.int z)) (by simp only [f3, if_neg hc3, if_neg hc6, if_pos hc9] <;> rfl), rfl⟩
      ·
        refine own_go (fun t k => XS.acmpNo A8.here hx rfl (hb hby d3_18) rfl (own_ane hc9).1 k) ?_
        show own_Go _ _ _ _ (T7.setTop (mkF m 21 #[.val (.ref r0)] []))
        refine own_go (fun t k => XS.aloadN A8.here hx rfl (hb hby d3_21) rfl rfl k) ?_
        show own_Go _ _ _ _ (T7.setTop (mkF m 22 #[.val (.ref r0)] [(.ref r0)]))
        refine own_getS A8 hx hZ hown (host := "") (Or.inl (hw _ (List.mem_of_getElem? (i := 22) rfl))) Via.refl S_NAME rfl (hb hby d3_22) (fun T10 A11 => ?_)
        show own_Go _ _ _ _ (T10.setTop (mkF m 25 #[.val (.ref r0)] [(.ref s_NAME), (.ref r0)]))
        by_cases hc12 : r0 = s_NAME
        ·
          refine own_go (fun t k => XS.acmpYes A11.here hx rfl (pc0 := 25) (pc' := 35) rfl (hb hby d3_25) rfl (own_aeq hc12).1 (by decide) (by decide) k) ?_
          show own_Go _ _ _ _ (T10.setTop (mkF m 35 #[.val (.ref r0)] []))
          refine own_go (fun t k => XS.iconst A11.here hx rfl (hb hby d3_35) k) ?_
          show own_Go _ _ _ _ (T10.setTop (mkF m 36 #[.val (.ref r0)] [(.int (1 : Int32))]))
          refine own_go (fun t k => XS.goto A11.here hx rfl (pc0 := 36) (pc' := 40) rfl (hb hby d3_36) (by decide) (by decide) k) ?_
          show own_Go _ _ _ _ (T10.setTop (mkF m 40 #[.val (.ref r0)] [(.int (1 : Int32))]))
          refine own_retN A11 hx (t := .boolean) hret (by simp) hlk (by decide) (by decide) (hb hby d3_40) ?_
          exact ⟨congrArg (fun z => some (Value.int z)) (by simp only [f3, if_neg hc3, if_neg hc6, if_neg hc9, if_pos hc12] <;> rfl), rfl⟩
        ·
          refine own_go (fun t k => XS.acmpNo A11.here hx rfl (hb hby d3_25) rfl (own_ane hc12).1 k) ?_
          show own_Go _ _ _ _ (T10.setTop (mkF m 28 #[.val (.ref r0)] []))
          refine own_go (fun t k => XS.aloadN A11.here hx rfl (hb hby d3_28) rfl rfl k) ?_
          show own_Go _ _ _ _ (T10.setTop (mkF m 29 #[.val (.ref r0)] [(.ref r0)]))
          refine own_getS A11 hx hZ hown (host := "") (Or.inl (hw _ (List.mem_of_getElem? (i := 24) rfl))) Via.refl S_PLACE rfl (hb hby d3_29) (fun T13 A14 => ?_)
          show own_Go _ _ _ _ (T13.setTop (mkF m 32 #[.val (.ref r0)] [(.ref s_PLACE), (.ref r0)]))
          have mg15 : ∀ t, Steps p.tables e below (T13.setTop (mkF m 40 #[.val (.ref r0)] [(.int (if r0 = s_PLACE then (1 : Int32) else (0 : Int32)))])) t → Steps p.tables e below (T13.setTop (mkF m 32 #[.val (.ref r0)] [(.ref s_PLACE), (.ref r0)])) t := by
            intro t k
            by_cases hm32_0 : r0 = s_PLACE
            ·
              simp only [if_pos hm32_0] at k
              exact (XS.acmpNo A14.here hx rfl (hb hby d3_32) rfl (own_aeq hm32_0).2 (XS.iconst A14.here hx rfl (hb hby d3_35) (XS.goto A14.here hx rfl (pc0 := 36) (pc' := 40) rfl (hb hby d3_36) (by decide) (by decide) k)))
            ·
              simp only [if_neg hm32_0] at k
              exact (XS.acmpYes A14.here hx rfl (pc0 := 32) (pc' := 39) rfl (hb hby d3_32) rfl (own_ane hm32_0).2 (by decide) (by decide) (XS.iconst A14.here hx rfl (hb hby d3_39) k))
          refine own_go mg15 ?_
          show own_Go _ _ _ _ (T13.setTop (mkF m 40 #[.val (.ref r0)] [(.int (if r0 = s_PLACE then (1 : Int32) else (0 : Int32)))]))
          refine own_retN A14 hx (t := .boolean) hret (by simp) hlk (by decide) (by decide) (hb hby d3_40) ?_
          exact ⟨congrArg (fun z => some (Value.int z)) (by simp only [f3, if_neg hc3, if_neg hc6, if_neg hc9, if_neg hc12]), rfl⟩
theorem own_pickE {Z : State} {h0 : Heap} (p0 : Int32) (s_FIXED s_UETR s_CREATED s_REQUISITE s_BIC s_AMOUNT s_LINE s_LINES s_JOINED s_NAME s_PLACE : Addr) (E_FIXED : Exa Z h0 s_FIXED "com/example/rublewire/rublewire/rur/DocumentLayout$Content") (E_UETR : Exa Z h0 s_UETR "com/example/rublewire/rublewire/rur/DocumentLayout$Content") (E_CREATED : Exa Z h0 s_CREATED "com/example/rublewire/rublewire/rur/DocumentLayout$Content") (E_REQUISITE : Exa Z h0 s_REQUISITE "com/example/rublewire/rublewire/rur/DocumentLayout$Content") (E_BIC : Exa Z h0 s_BIC "com/example/rublewire/rublewire/rur/DocumentLayout$Content") (E_AMOUNT : Exa Z h0 s_AMOUNT "com/example/rublewire/rublewire/rur/DocumentLayout$Content") (E_LINE : Exa Z h0 s_LINE "com/example/rublewire/rublewire/rur/DocumentLayout$Content") (E_LINES : Exa Z h0 s_LINES "com/example/rublewire/rublewire/rur/DocumentLayout$Content") (E_JOINED : Exa Z h0 s_JOINED "com/example/rublewire/rublewire/rur/DocumentLayout$Content") (E_NAME : Exa Z h0 s_NAME "com/example/rublewire/rublewire/rur/DocumentLayout$Content") (E_PLACE : Exa Z h0 s_PLACE "com/example/rublewire/rublewire/rur/DocumentLayout$Content") : Exa Z h0 (f1 p0 s_FIXED s_UETR s_CREATED s_REQUISITE s_BIC s_AMOUNT s_LINE s_LINES s_JOINED s_NAME s_PLACE) "com/example/rublewire/rublewire/rur/DocumentLayout$Content" := by
  unfold f1
  repeat' split
  all_goals assumption
theorem ef_0 (m : MethodId) (p0 : Int32) : entryFrame m #[(.int p0)] maxLocals = mkF m 0 #[.val (.int p0), .unset, .unset, .unset] [] := by first | (simp [entryFrame, mkF, argsToLocals, Value.category, maxLocals]; done) | rfl
theorem pd__I_Lcom_example_rublewire_rublewire_rur_DocumentLayout_Content_ : parseMethodDescriptor "(I)Lcom/example/rublewire/rublewire/rur/DocumentLayout$Content;" = some ⟨[.int], some (.object "com/example/rublewire/rublewire/rur/DocumentLayout$Content")⟩ := by decide +kernel
theorem pd__I_Z : parseMethodDescriptor "(I)Z" = some ⟨[.int], some .boolean⟩ := by decide +kernel
theorem pd___Z : parseMethodDescriptor "()Z" = some ⟨[], some .boolean⟩ := by decide +kernel
def f0 (p0 : Int32) (s_FIXED : Addr) (s_UETR : Addr) (s_CREATED : Addr) (s_REQUISITE : Addr) (s_BIC : Addr) (s_AMOUNT : Addr) (s_LINE : Addr) (s_LINES : Addr) (s_JOINED : Addr) (s_NAME : Addr) (s_PLACE : Addr) : Int32 := (nar .boolean (if (f3 (f1 ((p0 &&& (2147483647 : Int32)) % (11 : Int32)) s_FIXED s_UETR s_CREATED s_REQUISITE s_BIC s_AMOUNT s_LINE s_LINES s_JOINED s_NAME s_PLACE) s_LINE s_LINES s_JOINED s_NAME s_PLACE) = (f2 ((p0 &&& (2147483647 : Int32)) % (11 : Int32))) then (1 : Int32) else (0 : Int32)))
set_option maxRecDepth 65536 in
set_option maxHeartbeats 40000000 in
theorem rm0 (l : Launch) (Z : State) (a0 : Array Value) (hw : ∀ d ∈ tables_1, d.before a0 Z = true) (p0 : Int32) (s_FIXED : Addr) (s_UETR : Addr) (s_CREATED : Addr) (s_REQUISITE : Addr) (s_BIC : Addr) (s_AMOUNT : Addr) (s_LINE : Addr) (s_LINES : Addr) (s_JOINED : Addr) (s_NAME : Addr) (s_PLACE : Addr) (h0 : Heap) (n0 : Nat) (S_FIXED : Sta Z h0 "com/example/rublewire/rublewire/rur/DocumentLayout$Content" "FIXED" "Lcom/example/rublewire/rublewire/rur/DocumentLayout$Content;" (.ref s_FIXED)) (S_UETR : Sta Z h0 "com/example/rublewire/rublewire/rur/DocumentLayout$Content" "UETR" "Lcom/example/rublewire/rublewire/rur/DocumentLayout$Content;" (.ref s_UETR)) (S_CREATED : Sta Z h0 "com/example/rublewire/rublewire/rur/DocumentLayout$Content" "CREATED" "Lcom/example/rublewire/rublewire/rur/DocumentLayout$Content;" (.ref s_CREATED)) (S_REQUISITE : Sta Z h0 "com/example/rublewire/rublewire/rur/DocumentLayout$Content" "REQUISITE" "Lcom/example/rublewire/rublewire/rur/DocumentLayout$Content;" (.ref s_REQUISITE)) (S_BIC : Sta Z h0 "com/example/rublewire/rublewire/rur/DocumentLayout$Content" "BIC" "Lcom/example/rublewire/rublewire/rur/DocumentLayout$Content;" (.ref s_BIC)) (S_AMOUNT : Sta Z h0 "com/example/rublewire/rublewire/rur/DocumentLayout$Content" "AMOUNT" "Lcom/example/rublewire/rublewire/rur/DocumentLayout$Content;" (.ref s_AMOUNT)) (S_LINE : Sta Z h0 "com/example/rublewire/rublewire/rur/DocumentLayout$Content" "LINE" "Lcom/example/rublewire/rublewire/rur/DocumentLayout$Content;" (.ref s_LINE)) (S_LINES : Sta Z h0 "com/example/rublewire/rublewire/rur/DocumentLayout$Content" "LINES" "Lcom/example/rublewire/rublewire/rur/DocumentLayout$Content;" (.ref s_LINES)) (S_JOINED : Sta Z h0 "com/example/rublewire/rublewire/rur/DocumentLayout$Content" "JOINED" "Lcom/example/rublewire/rublewire/rur/DocumentLayout$Content;" (.ref s_JOINED)) (S_NAME : Sta Z h0 "com/example/rublewire/rublewire/rur/DocumentLayout$Content" "NAME" "Lcom/example/rublewire/rublewire/rur/DocumentLayout$Content;" (.ref s_NAME)) (S_PLACE : Sta Z h0 "com/example/rublewire/rublewire/rur/DocumentLayout$Content" "PLACE" "Lcom/example/rublewire/rublewire/rur/DocumentLayout$Content;" (.ref s_PLACE)) (E_FIXED : Exa Z h0 s_FIXED "com/example/rublewire/rublewire/rur/DocumentLayout$Content") (E_UETR : Exa Z h0 s_UETR "com/example/rublewire/rublewire/rur/DocumentLayout$Content") (E_CREATED : Exa Z h0 s_CREATED "com/example/rublewire/rublewire/rur/DocumentLayout$Content") (E_REQUISITE : Exa Z h0 s_REQUISITE "com/example/rublewire/rublewire/rur/DocumentLayout$Content") (E_BIC : Exa Z h0 s_BIC "com/example/rublewire/rublewire/rur/DocumentLayout$Content") (E_AMOUNT : Exa Z h0 s_AMOUNT "com/example/rublewire/rublewire/rur/DocumentLayout$Content") (E_LINE : Exa Z h0 s_LINE "com/example/rublewire/rublewire/rur/DocumentLayout$Content") (E_LINES : Exa Z h0 s_LINES "com/example/rublewire/rublewire/rur/DocumentLayout$Content") (E_JOINED : Exa Z h0 s_JOINED "com/example/rublewire/rublewire/rur/DocumentLayout$Content") (E_NAME : Exa Z h0 s_NAME "com/example/rublewire/rublewire/rur/DocumentLayout$Content") (E_PLACE : Exa Z h0 s_PLACE "com/example/rublewire/rublewire/rur/DocumentLayout$Content") :
    own_Met l Z n0 x code maxLocals ret room_1 #[(.int p0)] h0 (fun v h => v = some (.int (f0 p0 s_FIXED s_UETR s_CREATED s_REQUISITE s_BIC s_AMOUNT s_LINE s_LINES s_JOINED s_NAME s_PLACE)) ∧ h0 = h) := by
  refine own_met (plainFor_of_name pn_1) ?_
  intro p e s m below meth c T0 hx hby hml hown hnm hret hlk hZ A0
  have hret : meth.sig.returnType = some .boolean := hret
  rw [ef_0]
  show own_Go _ _ _ _ (T0.setTop (mkF m 0 #[.val (.int p0), .unset, .unset, .unset] []))
  refine own_go (fun t k => XS.iloadN A0.here hx rfl (hb hby at_0) rfl k) ?_
  show own_Go _ _ _ _ (T0.setTop (mkF m 1 #[.val (.int p0), .unset, .unset, .unset] [(.int p0)]))
  refine own_ldcI A0 hx hZ hown (hw _ (List.mem_of_getElem? (i := 0) rfl)) rfl (hb hby at_1) ?_
  show own_Go _ _ _ _ (T0.setTop (mkF m 3 #[.val (.int p0), .unset, .unset, .unset] [(.int (2147483647 : Int32)), (.int p0)]))
  refine own_go (fun t k => XS.iand A0.here hx rfl (hb hby at_3) rfl k) ?_
  show own_Go _ _ _ _ (T0.setTop (mkF m 4 #[.val (.int p0), .unset, .unset, .unset] [(.int (p0 &&& (2147483647 : Int32)))]))
  refine own_go (fun t k => XS.bipush A0.here hx rfl (hb hby at_4) k) ?_
  show own_Go _ _ _ _ (T0.setTop (mkF m 6 #[.val (.int p0), .unset, .unset, .unset] [(.int (11 : Int32)), (.int (p0 &&& (2147483647 : Int32)))]))
  refine own_go (fun t k => own_irem A0.here hx rfl (hb hby at_6) rfl (by decide) k) ?_
  show own_Go _ _ _ _ (T0.setTop (mkF m 7 #[.val (.int p0), .unset, .unset, .unset] [(.int ((p0 &&& (2147483647 : Int32)) % (11 : Int32)))]))
  refine own_go (fun t k => XS.istoreN A0.here hx rfl (hb hby at_7) rfl (l' := #[.val (.int p0), .val (.int ((p0 &&& (2147483647 : Int32)) % (11 : Int32))), .unset, .unset]) rfl k) ?_
  show own_Go _ _ _ _ (T0.setTop (mkF m 8 #[.val (.int p0), .val (.int ((p0 &&& (2147483647 : Int32)) % (11 : Int32))), .unset, .unset] []))
  refine own_go (fun t k => XS.iloadN A0.here hx rfl (hb hby at_8) rfl k) ?_
  show own_Go _ _ _ _ (T0.setTop (mkF m 9 #[.val (.int p0), .val (.int ((p0 &&& (2147483647 : Int32)) % (11 : Int32))), .unset, .unset] [(.int ((p0 &&& (2147483647 : Int32)) % (11 : Int32)))]))
  refine own_callS A0 hx hZ hown (y := (⟨"com/example/rublewire/rublewire/rur/ContentCarriesFieldPinLaw", "pick", "(I)Lcom/example/rublewire/rublewire/rur/DocumentLayout$Content;"⟩ : MethodName)) (hw _ (List.mem_of_getElem? (i := 1) rfl)) (hw _ (List.mem_of_getElem? (i := 2) rfl)) (hw _ (List.mem_of_getElem? (i := 3) rfl)) (hw _ (List.mem_of_getElem? (i := 4) rfl)) (by decide) (argsL := [(.int ((p0 &&& (2147483647 : Int32)) % (11 : Int32)))]) (rest := []) (rm1 l Z a0 hw ((p0 &&& (2147483647 : Int32)) % (11 : Int32)) s_FIXED s_UETR s_CREATED s_REQUISITE s_BIC s_AMOUNT s_LINE s_LINES s_JOINED s_NAME s_PLACE h0 n0 S_FIXED S_UETR S_CREATED S_REQUISITE S_BIC S_AMOUNT S_LINE S_LINES S_JOINED S_NAME S_PLACE) 0 (by decide) (by decide) rfl (by rw [hml]; rfl) (lenOf pd__I_Lcom_example_rublewire_rublewire_rur_DocumentLayout_Content_ rfl) rfl (by show 2 * 0 + _ ≤ _; exact Nat.le_of_eq rfl) (hb hby at_9) (by decide) (by decide) (fun v4 T1 h3 A2 hQ5 => ?_)
  obtain ⟨rfl, rfl⟩ := hQ5
  show own_Go _ _ _ _ (T1.setTop (mkF m 12 #[.val (.int p0), .val (.int ((p0 &&& (2147483647 : Int32)) % (11 : Int32))), .unset, .unset] [(.ref (f1 ((p0 &&& (2147483647 : Int32)) % (11 : Int32)) s_FIXED s_UETR s_CREATED s_REQUISITE s_BIC s_AMOUNT s_LINE s_LINES s_JOINED s_NAME s_PLACE))]))
  refine own_go (fun t k => XS.astoreN A2.here hx rfl (hb hby at_12) rfl rfl (l' := #[.val (.int p0), .val (.int ((p0 &&& (2147483647 : Int32)) % (11 : Int32))), .val (.ref (f1 ((p0 &&& (2147483647 : Int32)) % (11 : Int32)) s_FIXED s_UETR s_CREATED s_REQUISITE s_BIC s_AMOUNT s_LINE s_LINES s_JOINED s_NAME s_PLACE)), .unset]) rfl k) ?_
  show own_Go _ _ _ _ (T1.setTop (mkF m 13 #[.val (.int p0), .val (.int ((p0 &&& (2147483647 : Int32)) % (11 : Int32))), .val (.ref (f1 ((p0 &&& (2147483647 : Int32)) % (11 : Int32)) s_FIXED s_UETR s_CREATED s_REQUISITE s_BIC s_AMOUNT s_LINE s_LINES s_JOINED s_NAME s_PLACE)), .unset] []))
  refine own_go (fun t k => XS.iloadN A2.here hx rfl (hb hby at_13) rfl k) ?_
  show own_Go _ _ _ _ (T1.setTop (mkF m 14 #[.val (.int p0), .val (.int ((p0 &&& (2147483647 : Int32)) % (11 : Int32))), .val (.ref (f1 ((p0 &&& (2147483647 : Int32)) % (11 : Int32)) s_FIXED s_UETR s_CREATED s_REQUISITE s_BIC s_AMOUNT s_LINE s_LINES s_JOINED s_NAME s_PLACE)), .unset] [(.int ((p0 &&& (2147483647 : Int32)) % (11 : Int32)))]))
  refine own_callS A2 hx hZ hown (y := (⟨"com/example/rublewire/rublewire/rur/ContentCarriesFieldPinLaw", "expected", "(I)Z"⟩ : MethodName)) (hw _ (List.mem_of_getElem? (i := 8) rfl)) (hw _ (List.mem_of_getElem? (i := 9) rfl)) (hw _ (List.mem_of_getElem? (i := 3) rfl)) (hw _ (List.mem_of_getElem? (i := 10) rfl)) (by decide) (argsL := [(.int ((p0 &&& (2147483647 : Int32)) % (11 : Int32)))]) (rest := []) (rm2 l Z a0 hw ((p0 &&& (2147483647 : Int32)) % (11 : Int32)) h0 n0 ) 0 (by decide) (by decide) rfl (by rw [hml]; rfl) (lenOf pd__I_Z rfl) rfl (by show 2 * 0 + _ ≤ _; exact Nat.le_of_eq rfl) (hb hby at_14) (by decide) (by decide) (fun v9 T6 h8 A7 hQ10 => ?_)
  obtain ⟨rfl, rfl⟩ := hQ10
  show own_Go _ _ _ _ (T6.setTop (mkF m 17 #[.val (.int p0), .val (.int ((p0 &&& (2147483647 : Int32)) % (11 : Int32))), .val (.ref (f1 ((p0 &&& (2147483647 : Int32)) % (11 : Int32)) s_FIXED s_UETR s_CREATED s_REQUISITE s_BIC s_AMOUNT s_LINE s_LINES s_JOINED s_NAME s_PLACE)), .unset] [(.int (f2 ((p0 &&& (2147483647 : Int32)) % (11 : Int32))))]))
  refine own_go (fun t k => XS.istoreN A7.here hx rfl (hb hby at_17) rfl (l' := #[.val (.int p0), .val (.int ((p0 &&& (2147483647 : Int32)) % (11 : Int32))), .val (.ref (f1 ((p0 &&& (2147483647 : Int32)) % (11 : Int32)) s_FIXED s_UETR s_CREATED s_REQUISITE s_BIC s_AMOUNT s_LINE s_LINES s_JOINED s_NAME s_PLACE)), .val (.int (f2 ((p0 &&& (2147483647 : Int32)) % (11 : Int32))))]) rfl k) ?_
  show own_Go _ _ _ _ (T6.setTop (mkF m 18 #[.val (.int p0), .val (.int ((p0 &&& (2147483647 : Int32)) % (11 : Int32))), .val (.ref (f1 ((p0 &&& (2147483647 : Int32)) % (11 : Int32)) s_FIXED s_UETR s_CREATED s_REQUISITE s_BIC s_AMOUNT s_LINE s_LINES s_JOINED s_NAME s_PLACE)), .val (.int (f2 ((p0 &&& (2147483647 : Int32)) % (11 : Int32))))] []))
  refine own_go (fun t k => XS.aloadN A7.here hx rfl (hb hby at_18) rfl rfl k) ?_
  show own_Go _ _ _ _ (T6.setTop (mkF m 19 #[.val (.int p0), .val (.int ((p0 &&& (2147483647 : Int32)) % (11 : Int32))), .val (.ref (f1 ((p0 &&& (2147483647 : Int32)) % (11 : Int32)) s_FIXED s_UETR s_CREATED s_REQUISITE s_BIC s_AMOUNT s_LINE s_LINES s_JOINED s_NAME s_PLACE)), .val (.int (f2 ((p0 &&& (2147483647 : Int32)) % (11 : Int32))))] [(.ref (f1 ((p0 &&& (2147483647 : Int32)) % (11 : Int32)) s_FIXED s_UETR s_CREATED s_REQUISITE s_BIC s_AMOUNT s_LINE s_LINES s_JOINED s_NAME s_PLACE))]))
  refine own_callV A7 hx hZ (y := (⟨"com/example/rublewire/rublewire/rur/DocumentLayout$Content", "carriesField", "()Z"⟩ : MethodName)) (z := (⟨"com/example/rublewire/rublewire/rur/DocumentLayout$Content", "carriesField", "()Z"⟩ : MethodName)) hown (hw _ (List.mem_of_getElem? (i := 11) rfl)) (hw _ (List.mem_of_getElem? (i := 12) rfl)) (hw _ (List.mem_of_getElem? (i := 14) rfl)) (hw _ (List.mem_of_getElem? (i := 13) rfl)) (hw _ (List.mem_of_getElem? (i := 6) rfl)) (hw _ (List.mem_of_getElem? (i := 15) rfl)) (notFace_of_selects (args := #[]) (mvT hZ (hw _ (List.mem_of_getElem? (i := 14) rfl)))) (by decide) (b := (f1 ((p0 &&& (2147483647 : Int32)) % (11 : Int32)) s_FIXED s_UETR s_CREATED s_REQUISITE s_BIC s_AMOUNT s_LINE s_LINES s_JOINED s_NAME s_PLACE)) (argsL := []) (rest := []) (own_pickE ((p0 &&& (2147483647 : Int32)) % (11 : Int32)) s_FIXED s_UETR s_CREATED s_REQUISITE s_BIC s_AMOUNT s_LINE s_LINES s_JOINED s_NAME s_PLACE E_FIXED E_UETR E_CREATED E_REQUISITE E_BIC E_AMOUNT E_LINE E_LINES E_JOINED E_NAME E_PLACE) (rm3 l Z a0 hw (f1 ((p0 &&& (2147483647 : Int32)) % (11 : Int32)) s_FIXED s_UETR s_CREATED s_REQUISITE s_BIC s_AMOUNT s_LINE s_LINES s_JOINED s_NAME s_PLACE) s_LINE s_LINES s_JOINED s_NAME s_PLACE h0 n0 S_LINE S_LINES S_JOINED S_NAME S_PLACE) 0 (by decide) (by decide) rfl (by rw [hml]; rfl) (lenOf pd___Z rfl) rfl (by show 2 * 0 + _ ≤ _; exact Nat.le_of_eq rfl) (hb hby at_19) (by decide) (by decide) (fun v14 T11 h13 A12 hQ15 => ?_)
  obtain ⟨rfl, rfl⟩ := hQ15
  show own_Go _ _ _ _ (T11.setTop (mkF m 22 #[.val (.int p0), .val (.int ((p0 &&& (2147483647 : Int32)) % (11 : Int32))), .val (.ref (f1 ((p0 &&& (2147483647 : Int32)) % (11 : Int32)) s_FIXED s_UETR s_CREATED s_REQUISITE s_BIC s_AMOUNT s_LINE s_LINES s_JOINED s_NAME s_PLACE)), .val (.int (f2 ((p0 &&& (2147483647 : Int32)) % (11 : Int32))))] [(.int (f3 (f1 ((p0 &&& (2147483647 : Int32)) % (11 : Int32)) s_FIXED s_UETR s_CREATED s_REQUISITE s_BIC s_AMOUNT s_LINE s_LINES s_JOINED s_NAME s_PLACE) s_LINE s_LINES s_JOINED s_NAME s_PLACE))]))
  refine own_go (fun t k => XS.iloadN A12.here hx rfl (hb hby at_22) rfl k) ?_
  show own_Go _ _ _ _ (T11.setTop (mkF m 23 #[.val (.int p0), .val (.int ((p0 &&& (2147483647 : Int32)) % (11 : Int32))), .val (.ref (f1 ((p0 &&& (2147483647 : Int32)) % (11 : Int32)) s_FIXED s_UETR s_CREATED s_REQUISITE s_BIC s_AMOUNT s_LINE s_LINES s_JOINED s_NAME s_PLACE)), .val (.int (f2 ((p0 &&& (2147483647 : Int32)) % (11 : Int32))))] [(.int (f2 ((p0 &&& (2147483647 : Int32)) % (11 : Int32)))), (.int (f3 (f1 ((p0 &&& (2147483647 : Int32)) % (11 : Int32)) s_FIXED s_UETR s_CREATED s_REQUISITE s_BIC s_AMOUNT s_LINE s_LINES s_JOINED s_NAME s_PLACE) s_LINE s_LINES s_JOINED s_NAME s_PLACE))]))
  have mg16 : ∀ t, Steps p.tables e below (T11.setTop (mkF m 31 #[.val (.int p0), .val (.int ((p0 &&& (2147483647 : Int32)) % (11 : Int32))), .val (.ref (f1 ((p0 &&& (2147483647 : Int32)) % (11 : Int32)) s_FIXED s_UETR s_CREATED s_REQUISITE s_BIC s_AMOUNT s_LINE s_LINES s_JOINED s_NAME s_PLACE)), .val (.int (f2 ((p0 &&& (2147483647 : Int32)) % (11 : Int32))))] [(.int (if (f3 (f1 ((p0 &&& (2147483647 : Int32)) % (11 : Int32)) s_FIXED s_UETR s_CREATED s_REQUISITE s_BIC s_AMOUNT s_LINE s_LINES s_JOINED s_NAME s_PLACE) s_LINE s_LINES s_JOINED s_NAME s_PLACE) = (f2 ((p0 &&& (2147483647 : Int32)) % (11 : Int32))) then (1 : Int32) else (0 : Int32)))])) t → Steps p.tables e below (T11.setTop (mkF m 23 #[.val (.int p0), .val (.int ((p0 &&& (2147483647 : Int32)) % (11 : Int32))), .val (.ref (f1 ((p0 &&& (2147483647 : Int32)) % (11 : Int32)) s_FIXED s_UETR s_CREATED s_REQUISITE s_BIC s_AMOUNT s_LINE s_LINES s_JOINED s_NAME s_PLACE)), .val (.int (f2 ((p0 &&& (2147483647 : Int32)) % (11 : Int32))))] [(.int (f2 ((p0 &&& (2147483647 : Int32)) % (11 : Int32)))), (.int (f3 (f1 ((p0 &&& (2147483647 : Int32)) % (11 : Int32)) s_FIXED s_UETR s_CREATED s_REQUISITE s_BIC s_AMOUNT s_LINE s_LINES s_JOINED s_NAME s_PLACE) s_LINE s_LINES s_JOINED s_NAME s_PLACE))])) t := by
    intro t k
    by_cases hm23_0 : (f3 (f1 ((p0 &&& (2147483647 : Int32)) % (11 : Int32)) s_FIXED s_UETR s_CREATED s_REQUISITE s_BIC s_AMOUNT s_LINE s_LINES s_JOINED s_NAME s_PLACE) s_LINE s_LINES s_JOINED s_NAME s_PLACE) = (f2 ((p0 &&& (2147483647 : Int32)) % (11 : Int32)))
    ·
      simp only [if_pos hm23_0] at k
      exact (XS.icmpNo A12.here hx rfl (hb hby at_23) rfl (teq hm23_0).2 (XS.iconst A12.here hx rfl (hb hby at_26) (XS.goto A12.here hx rfl (pc0 := 27) (pc' := 31) rfl (hb hby at_27) (by decide) (by decide) k)))
    ·
      simp only [if_neg hm23_0] at k
      exact (XS.icmpYes A12.here hx rfl (pc0 := 23) (pc' := 30) rfl (hb hby at_23) rfl (feq hm23_0).2 (by decide) (by decide) (XS.iconst A12.here hx rfl (hb hby at_30) k))
  refine own_go mg16 ?_
  show own_Go _ _ _ _ (T11.setTop (mkF m 31 #[.val (.int p0), .val (.int ((p0 &&& (2147483647 : Int32)) % (11 : Int32))), .val (.ref (f1 ((p0 &&& (2147483647 : Int32)) % (11 : Int32)) s_FIXED s_UETR s_CREATED s_REQUISITE s_BIC s_AMOUNT s_LINE s_LINES s_JOINED s_NAME s_PLACE)), .val (.int (f2 ((p0 &&& (2147483647 : Int32)) % (11 : Int32))))] [(.int (if (f3 (f1 ((p0 &&& (2147483647 : Int32)) % (11 : Int32)) s_FIXED s_UETR s_CREATED s_REQUISITE s_BIC s_AMOUNT s_LINE s_LINES s_JOINED s_NAME s_PLACE) s_LINE s_LINES s_JOINED s_NAME s_PLACE) = (f2 ((p0 &&& (2147483647 : Int32)) % (11 : Int32))) then (1 : Int32) else (0 : Int32)))]))
  refine own_retN A12 hx (t := .boolean) hret (by simp) hlk (by decide) (by decide) (hb hby at_31) ?_
  exact ⟨rfl, rfl⟩
theorem own_small (x : Int32) (n : Nat) (h0 : 0 ≤ x.toInt) (h : x.toInt < n) : ∃ k : Nat, k < n ∧ x = Int32.ofNat k := by
  refine ⟨x.toInt.toNat, by omega, ?_⟩
  apply Int32.toInt_inj.mp
  have h2 := x.toInt_lt
  have h3 : (Int32.ofNat x.toInt.toNat).toInt = ((x.toInt.toNat : Nat) : Int) := Int32.toInt_ofNat_small (by omega)
  rw [h3]
  omega
theorem own_f3 (r a b c d e : Addr) (h : r = a ∨ r = b ∨ r = c ∨ r = d ∨ r = e) : f3 r a b c d e = 1 := by
  unfold f3
  by_cases h1 : r = a
  · rw [if_pos h1]
  · by_cases h2 : r = b
    · rw [if_neg h1, if_pos h2]
    · by_cases h3 : r = c
      · rw [if_neg h1, if_neg h2, if_pos h3]
      · by_cases h4 : r = d
        · rw [if_neg h1, if_neg h2, if_neg h3, if_pos h4]
        · have h5 : r = e := by simpa [h1, h2, h3, h4] using h
          rw [if_neg h1, if_neg h2, if_neg h3, if_neg h4, if_pos h5]
          rfl
set_option maxHeartbeats 4000000 in
theorem law_true (i0 : Int32) (s_FIXED s_UETR s_CREATED s_REQUISITE s_BIC s_AMOUNT s_LINE s_LINES s_JOINED s_NAME s_PLACE : Addr) (n_FIXED_LINE : s_FIXED ≠ s_LINE) (n_FIXED_LINES : s_FIXED ≠ s_LINES) (n_FIXED_JOINED : s_FIXED ≠ s_JOINED) (n_FIXED_NAME : s_FIXED ≠ s_NAME) (n_FIXED_PLACE : s_FIXED ≠ s_PLACE) (n_UETR_LINE : s_UETR ≠ s_LINE) (n_UETR_LINES : s_UETR ≠ s_LINES) (n_UETR_JOINED : s_UETR ≠ s_JOINED) (n_UETR_NAME : s_UETR ≠ s_NAME) (n_UETR_PLACE : s_UETR ≠ s_PLACE) (n_CREATED_LINE : s_CREATED ≠ s_LINE) (n_CREATED_LINES : s_CREATED ≠ s_LINES) (n_CREATED_JOINED : s_CREATED ≠ s_JOINED) (n_CREATED_NAME : s_CREATED ≠ s_NAME) (n_CREATED_PLACE : s_CREATED ≠ s_PLACE) (n_REQUISITE_LINE : s_REQUISITE ≠ s_LINE) (n_REQUISITE_LINES : s_REQUISITE ≠ s_LINES) (n_REQUISITE_JOINED : s_REQUISITE ≠ s_JOINED) (n_REQUISITE_NAME : s_REQUISITE ≠ s_NAME) (n_REQUISITE_PLACE : s_REQUISITE ≠ s_PLACE) (n_BIC_LINE : s_BIC ≠ s_LINE) (n_BIC_LINES : s_BIC ≠ s_LINES) (n_BIC_JOINED : s_BIC ≠ s_JOINED) (n_BIC_NAME : s_BIC ≠ s_NAME) (n_BIC_PLACE : s_BIC ≠ s_PLACE) (n_AMOUNT_LINE : s_AMOUNT ≠ s_LINE) (n_AMOUNT_LINES : s_AMOUNT ≠ s_LINES) (n_AMOUNT_JOINED : s_AMOUNT ≠ s_JOINED) (n_AMOUNT_NAME : s_AMOUNT ≠ s_NAME) (n_AMOUNT_PLACE : s_AMOUNT ≠ s_PLACE) : f0 i0 s_FIXED s_UETR s_CREATED s_REQUISITE s_BIC s_AMOUNT s_LINE s_LINES s_JOINED s_NAME s_PLACE = 1 := by
  have h0 : 0 ≤ (i0 &&& (2147483647 : Int32)).toInt := (c_and i0 2147483647 (by decide)).1
  have h1 := (c_irem (i0 &&& (2147483647 : Int32)) 11 11 rfl).1 h0
  obtain ⟨k, hk, e⟩ := own_small ((i0 &&& (2147483647 : Int32)) % (11 : Int32)) 11 (by omega) (by omega)
  unfold f0
  rw [e]
  have hk' : k = 0 ∨ k = 1 ∨ k = 2 ∨ k = 3 ∨ k = 4 ∨ k = 5 ∨ k = 6 ∨ k = 7 ∨ k = 8 ∨ k = 9 ∨ k = 10 := by omega
  rcases hk' with rfl | rfl | rfl | rfl | rfl | rfl | rfl | rfl | rfl | rfl | rfl
  · show nar .boolean (if f3 s_FIXED s_LINE s_LINES s_JOINED s_NAME s_PLACE = 0 then 1 else 0) = 1
    simp only [f3, if_neg n_FIXED_LINE, if_neg n_FIXED_LINES, if_neg n_FIXED_JOINED, if_neg n_FIXED_NAME, if_neg n_FIXED_PLACE]
    rfl
  · show nar .boolean (if f3 s_UETR s_LINE s_LINES s_JOINED s_NAME s_PLACE = 0 then 1 else 0) = 1
    simp only [f3, if_neg n_UETR_LINE, if_neg n_UETR_LINES, if_neg n_UETR_JOINED, if_neg n_UETR_NAME, if_neg n_UETR_PLACE]
    rfl
  · show nar .boolean (if f3 s_CREATED s_LINE s_LINES s_JOINED s_NAME s_PLACE = 0 then 1 else 0) = 1
    simp only [f3, if_neg n_CREATED_LINE, if_neg n_CREATED_LINES, if_neg n_CREATED_JOINED, if_neg n_CREATED_NAME, if_neg n_CREATED_PLACE]
    rfl
  · show nar .boolean (if f3 s_REQUISITE s_LINE s_LINES s_JOINED s_NAME s_PLACE = 0 then 1 else 0) = 1
    simp only [f3, if_neg n_REQUISITE_LINE, if_neg n_REQUISITE_LINES, if_neg n_REQUISITE_JOINED, if_neg n_REQUISITE_NAME, if_neg n_REQUISITE_PLACE]
    rfl
  · show nar .boolean (if f3 s_BIC s_LINE s_LINES s_JOINED s_NAME s_PLACE = 0 then 1 else 0) = 1
    simp only [f3, if_neg n_BIC_LINE, if_neg n_BIC_LINES, if_neg n_BIC_JOINED, if_neg n_BIC_NAME, if_neg n_BIC_PLACE]
    rfl
  · show nar .boolean (if f3 s_AMOUNT s_LINE s_LINES s_JOINED s_NAME s_PLACE = 0 then 1 else 0) = 1
    simp only [f3, if_neg n_AMOUNT_LINE, if_neg n_AMOUNT_LINES, if_neg n_AMOUNT_JOINED, if_neg n_AMOUNT_NAME, if_neg n_AMOUNT_PLACE]
    rfl
  · show nar .boolean (if f3 s_LINE s_LINE s_LINES s_JOINED s_NAME s_PLACE = 1 then 1 else 0) = 1
    have q : f3 s_LINE s_LINE s_LINES s_JOINED s_NAME s_PLACE = 1 := own_f3 _ _ _ _ _ _ (Or.inl rfl)
    rw [if_pos q]
    rfl
  · show nar .boolean (if f3 s_LINES s_LINE s_LINES s_JOINED s_NAME s_PLACE = 1 then 1 else 0) = 1
    have q : f3 s_LINES s_LINE s_LINES s_JOINED s_NAME s_PLACE = 1 := own_f3 _ _ _ _ _ _ (Or.inr (Or.inl rfl))
    rw [if_pos q]
    rfl
  · show nar .boolean (if f3 s_JOINED s_LINE s_LINES s_JOINED s_NAME s_PLACE = 1 then 1 else 0) = 1
    have q : f3 s_JOINED s_LINE s_LINES s_JOINED s_NAME s_PLACE = 1 := own_f3 _ _ _ _ _ _ (Or.inr (Or.inr (Or.inl rfl)))
    rw [if_pos q]
    rfl
  · show nar .boolean (if f3 s_NAME s_LINE s_LINES s_JOINED s_NAME s_PLACE = 1 then 1 else 0) = 1
    have q : f3 s_NAME s_LINE s_LINES s_JOINED s_NAME s_PLACE = 1 := own_f3 _ _ _ _ _ _ (Or.inr (Or.inr (Or.inr (Or.inl rfl))))
    rw [if_pos q]
    rfl
  · show nar .boolean (if f3 s_PLACE s_LINE s_LINES s_JOINED s_NAME s_PLACE = 1 then 1 else 0) = 1
    have q : f3 s_PLACE s_LINE s_LINES s_JOINED s_NAME s_PLACE = 1 := own_f3 _ _ _ _ _ _ (Or.inr (Or.inr (Or.inr (Or.inr rfl))))
    rw [if_pos q]
    rfl
set_option maxRecDepth 65536 in
set_option maxHeartbeats 40000000 in
theorem comes_1 {Post : Tables → Env → Array Value → State → Outcome → State → Prop} (hpost : ∀ tb e args s v u, (limb_1_1.after args s (.returned v) u = true ∧ limb_1_2.after args s (.returned v) u = true ∧ True) → FrameEnd s (.returned v) u (Jvm.fieldLocs frame_1_writes args s ++ Jvm.arrayLocs frame_1_arrays args s ++ Jvm.staticLocs frame_1_statics s) 0 0 → Post tb e args s (.returned v) u) :
    ArmFor flags0 classFile x code maxLocals ret World_1 tables_1 room_1 Calls_1 rest_1 Pre_1 Post := by
  intro l hfl _ _ p e ha hc hk s m args below hf hA hF happ hP
  obtain ⟨hcalls, hrest, hpre⟩ := hP
  obtain ⟨-, -, -, hnamed, -, -, -, hat⟩ := (Spec.applies_iff hf).mp happ
  obtain ⟨hg, hn⟩ := and_e (Cond.before_iff.mp (show (Jvm.Cond.and given_1 narrow_1).before args s = true from hpre))
  obtain ⟨gc, gr⟩ := and_e hg
  obtain ⟨w0, rfl⟩ : ∃ w0 : Value, args = #[w0] := by
    have hs : args.size = 1 := by simpa [Cond.value, given_1] using gc
    obtain ⟨L⟩ := args
    match L, hs with
    | [w0], _ => exact ⟨w0, rfl⟩
  have hw := fun d (hd : d ∈ tables_1) => atoms_spec (ws := Jvm.Cond.code x code maxLocals ret :: tables_1) hat d (List.mem_cons_of_mem _ hd)
  have hfit : Fit s := fun {y c} hc i hi => by
    obtain ⟨ha, rfl⟩ := Array.getElem?_eq_some_iff.mp hc
    have q := List.all_eq_true.mp ((Array.all_eq_true_iff_forall_mem.mp hF) _ (Array.getElem_mem ha)) i (List.mem_range.mpr hi)
    simpa [Array.getElem?_eq_getElem hi] using q
  obtain ⟨i0, ei0⟩ := is_v gr
  obtain rfl : w0 = (.int i0) := Option.some.inj ei0
  obtain ⟨n0, m0⟩ := and_e hn
  obtain ⟨s_FIXED, S_FIXED, E_FIXED, ev_FIXED⟩ := own_sta n0 (hw _ (List.mem_of_getElem? (i := 6) rfl)) (hw _ (List.mem_of_getElem? (i := 7) rfl))
  obtain ⟨n1, m1⟩ := and_e m0
  obtain ⟨s_LINE, S_LINE, E_LINE, ev_LINE⟩ := own_sta n1 (hw _ (List.mem_of_getElem? (i := 6) rfl)) (hw _ (List.mem_of_getElem? (i := 17) rfl))
  obtain ⟨n2, m2⟩ := and_e m1
  have F_ordinal_FIXED := own_fldS n2 ev_FIXED (Term.int_eval (0))
  obtain ⟨n3, m3⟩ := and_e m2
  have F_ordinal_LINE := own_fldS n3 ev_LINE (Term.int_eval (6))
  obtain ⟨n4, m4⟩ := and_e m3
  obtain ⟨s_LINES, S_LINES, E_LINES, ev_LINES⟩ := own_sta n4 (hw _ (List.mem_of_getElem? (i := 6) rfl)) (hw _ (List.mem_of_getElem? (i := 19) rfl))
  obtain ⟨n5, m5⟩ := and_e m4
  have F_ordinal_LINES := own_fldS n5 ev_LINES (Term.int_eval (7))
  obtain ⟨n6, m6⟩ := and_e m5
  obtain ⟨s_JOINED, S_JOINED, E_JOINED, ev_JOINED⟩ := own_sta n6 (hw _ (List.mem_of_getElem? (i := 6) rfl)) (hw _ (List.mem_of_getElem? (i := 21) rfl))
  obtain ⟨n7, m7⟩ := and_e m6
  have F_ordinal_JOINED := own_fldS n7 ev_JOINED (Term.int_eval (8))
  obtain ⟨n8, m8⟩ := and_e m7
  obtain ⟨s_NAME, S_NAME, E_NAME, ev_NAME⟩ := own_sta n8 (hw _ (List.mem_of_getElem? (i := 6) rfl)) (hw _ (List.mem_of_getElem? (i := 23) rfl))
  obtain ⟨n9, m9⟩ := and_e m8
  have F_ordinal_NAME := own_fldS n9 ev_NAME (Term.int_eval (9))
  obtain ⟨n10, m10⟩ := and_e m9
  obtain ⟨s_PLACE, S_PLACE, E_PLACE, ev_PLACE⟩ := own_sta n10 (hw _ (List.mem_of_getElem? (i := 6) rfl)) (hw _ (List.mem_of_getElem? (i := 25) rfl))
  obtain ⟨n11, m11⟩ := and_e m10
  have F_ordinal_PLACE := own_fldS n11 ev_PLACE (Term.int_eval (10))
  obtain ⟨n12, m12⟩ := and_e m11
  obtain ⟨s_REQUISITE, S_REQUISITE, E_REQUISITE, ev_REQUISITE⟩ := own_sta n12 (hw _ (List.mem_of_getElem? (i := 6) rfl)) (hw _ (List.mem_of_getElem? (i := 27) rfl))
  obtain ⟨n13, m13⟩ := and_e m12
  have F_ordinal_REQUISITE := own_fldS n13 ev_REQUISITE (Term.int_eval (3))
  obtain ⟨n14, m14⟩ := and_e m13
  obtain ⟨s_CREATED, S_CREATED, E_CREATED, ev_CREATED⟩ := own_sta n14 (hw _ (List.mem_of_getElem? (i := 6) rfl)) (hw _ (List.mem_of_getElem? (i := 31) rfl))
  obtain ⟨n15, m15⟩ := and_e m14
  have F_ordinal_CREATED := own_fldS n15 ev_CREATED (Term.int_eval (2))
  obtain ⟨n16, m16⟩ := and_e m15
  obtain ⟨s_UETR, S_UETR, E_UETR, ev_UETR⟩ := own_sta n16 (hw _ (List.mem_of_getElem? (i := 6) rfl)) (hw _ (List.mem_of_getElem? (i := 34) rfl))
  obtain ⟨n17, m17⟩ := and_e m16
  have F_ordinal_UETR := own_fldS n17 ev_UETR (Term.int_eval (1))
  obtain ⟨n18, m18⟩ := and_e m17
  obtain ⟨s_AMOUNT, S_AMOUNT, E_AMOUNT, ev_AMOUNT⟩ := own_sta n18 (hw _ (List.mem_of_getElem? (i := 6) rfl)) (hw _ (List.mem_of_getElem? (i := 37) rfl))
  obtain ⟨n19, m19⟩ := and_e m18
  have F_ordinal_AMOUNT := own_fldS n19 ev_AMOUNT (Term.int_eval (5))
  obtain ⟨n20, m20⟩ := and_e m19
  obtain ⟨s_BIC, S_BIC, E_BIC, ev_BIC⟩ := own_sta n20 (hw _ (List.mem_of_getElem? (i := 6) rfl)) (hw _ (List.mem_of_getElem? (i := 40) rfl))
  have F_ordinal_BIC := own_fldS m20 ev_BIC (Term.int_eval (4))
  obtain ⟨n, o, h1, h2, h3, _, L, rfl, ⟨⟨rfl, hQ⟩, N⟩, hq⟩ := rm0 l s _ hw i0 s_FIXED s_UETR s_CREATED s_REQUISITE s_BIC s_AMOUNT s_LINE s_LINES s_JOINED s_NAME s_PLACE s.heap s.heap.size S_FIXED S_UETR S_CREATED S_REQUISITE S_BIC S_AMOUNT S_LINE S_LINES S_JOINED S_NAME S_PLACE E_FIXED E_UETR E_CREATED E_REQUISITE E_BIC E_AMOUNT E_LINE E_LINES E_JOINED E_NAME E_PLACE tables_1 p e ha hc hk s m _ below hf ((Spec.applies_iff_loose hf).mp happ).1 ⟨rfl, State.Warmed39.refl s, rfl⟩ trivial
  refine ⟨n, _, h1, h2, h3, hpost _ _ _ _ _ _ ⟨Cond.after_iff.mpr rfl, Cond.after_iff.mpr (eq_i res_at (Term.int_eval (1)) (congrArg Value.int (law_true i0 s_FIXED s_UETR s_CREATED s_REQUISITE s_BIC s_AMOUNT s_LINE s_LINES s_JOINED s_NAME s_PLACE (Fld.ne F_ordinal_FIXED F_ordinal_LINE (by decide)) (Fld.ne F_ordinal_FIXED F_ordinal_LINES (by decide)) (Fld.ne F_ordinal_FIXED F_ordinal_JOINED (by decide)) (Fld.ne F_ordinal_FIXED F_ordinal_NAME (by decide)) (Fld.ne F_ordinal_FIXED F_ordinal_PLACE (by decide)) (Fld.ne F_ordinal_UETR F_ordinal_LINE (by decide)) (Fld.ne F_ordinal_UETR F_ordinal_LINES (by decide)) (Fld.ne F_ordinal_UETR F_ordinal_JOINED (by decide)) (Fld.ne F_ordinal_UETR F_ordinal_NAME (by decide)) (Fld.ne F_ordinal_UETR F_ordinal_PLACE (by decide)) (Fld.ne F_ordinal_CREATED F_ordinal_LINE (by decide)) (Fld.ne F_ordinal_CREATED F_ordinal_LINES (by decide)) (Fld.ne F_ordinal_CREATED F_ordinal_JOINED (by decide)) (Fld.ne F_ordinal_CREATED F_ordinal_NAME (by decide)) (Fld.ne F_ordinal_CREATED F_ordinal_PLACE (by decide)) (Fld.ne F_ordinal_REQUISITE F_ordinal_LINE (by decide)) (Fld.ne F_ordinal_REQUISITE F_ordinal_LINES (by decide)) (Fld.ne F_ordinal_REQUISITE F_ordinal_JOINED (by decide)) (Fld.ne F_ordinal_REQUISITE F_ordinal_NAME (by decide)) (Fld.ne F_ordinal_REQUISITE F_ordinal_PLACE (by decide)) (Fld.ne F_ordinal_BIC F_ordinal_LINE (by decide)) (Fld.ne F_ordinal_BIC F_ordinal_LINES (by decide)) (Fld.ne F_ordinal_BIC F_ordinal_JOINED (by decide)) (Fld.ne F_ordinal_BIC F_ordinal_NAME (by decide)) (Fld.ne F_ordinal_BIC F_ordinal_PLACE (by decide)) (Fld.ne F_ordinal_AMOUNT F_ordinal_LINE (by decide)) (Fld.ne F_ordinal_AMOUNT F_ordinal_LINES (by decide)) (Fld.ne F_ordinal_AMOUNT F_ordinal_JOINED (by decide)) (Fld.ne F_ordinal_AMOUNT F_ordinal_NAME (by decide)) (Fld.ne F_ordinal_AMOUNT F_ordinal_PLACE (by decide))))), trivial⟩ ⟨hq.1, hq.2.1, (hq.2.2.sift fun y hy => Or.inr (N y hy)).mono (by decide) (by decide)⟩⟩
theorem main_1_1 : Claimed_1_1 := comes_1 fun _ _ _ _ _ _ h hF => ⟨h.1, hF⟩
theorem main_1_2 : Claimed_1_2 := comes_1 fun _ _ _ _ _ _ h hF => ⟨h.2.1, hF⟩
end Jvm.Pilot.@@N@@
namespace Jvm.Pilot.@@N@@
open Jvm Jvm.ClassFile Sem Op Lib Jvm.Free Jvm.Stand Jvm.Pilot.@@N@@.Jvm.D
/-! MADE BY PROGRAM (witnessworld.py) out of the Statement's table words and the real class files: 12 classes; the members and pool entries that the words name. The judged class is class 1, her method 1. -/
namespace start1
open Jvm.ClassFile
def u (s : String) : CpInfo := .utf8 (stringToUtf16 s)
/-- a pool by its gaps: so many unusable entries, then the entry; so many at the end -/
def gap : Nat → List CpInfo → List CpInfo
  | 0, r => r
  | n + 1, r => .unusable :: gap n r
def poolList (es : List (Nat × CpInfo)) (last : Nat) : List CpInfo := es.foldr (fun e r => gap e.1 (e.2 :: r)) (gap last [])
def pool (es : List (Nat × CpInfo)) (last : Nat) : Array CpInfo := ⟨poolList es last⟩
def fileOf (pool : Array CpInfo) (this : Nat) (attrs : Array Attribute := #[]) (ms : Array MethodInfo := #[]) (fl : Nat := 33) (sup : Nat := 0) (ifs : Array Nat := #[]) (fds : Array FieldInfo := #[]) : ClassFile where
  minorVersion := 0
  majorVersion := 65
  constantPool := pool
  accessFlags := fl
  thisClass := this
  superClass := sup
  interfaces := ifs
  fields := fds
  methods := ms
  attributes := attrs
def plain (name : String) (sup : Option ClassId) : Class where
  name := name
  kind := .ordinary
  loader := none
  accessFlags := 33
  super := sup
  interfaces := #[]
  cf := none
  fields := #[]
  methods := #[]
  instanceTypes := #[]
  staticTypes := #[]
  resolved := #[]
  callSites := []
  init := .initialized
  statics := none
  mirror := none

def pool0 : Array CpInfo := pool [(5, u "<init>"), (0, u "()V"), (1, .class_ 10), (1, u "java/lang/Object")] 113

def k0m0 : Method := { name := "<init>", desc := "()V", sig := { parameters := [], returnType := none }, accessFlags := 1, code := none }
/-- java/lang/Object -/
def k0 : Class := { plain "java/lang/Object" none with
  accessFlags := 33
  interfaces := #[]
  cf := some (fileOf pool0 8 #[] #[{ accessFlags := 1, nameIndex := 5, descriptorIndex := 6, attributes := #[] }] 33 0 #[] #[])
  fields := #[]
  methods := #[k0m0]
  instanceTypes := #[]
  staticTypes := #[]
  resolved := Array.replicate 124 none
  statics := none }

def pool1 : Array CpInfo := pool [(2, .class_ 4), (1, u "java/lang/Object"), (0, u "<init>"), (0, u "()V"), (0, .integer 2147483647), (0, .methodref 9 10), (0, .class_ 11), (0, .nameAndType 12 13), (0, u "com/example/rublewire/rublewire/rur/ContentCarriesFieldPinLaw"), (0, u "pick"), (0, u "(I)Lcom/example/rublewire/rublewire/rur/DocumentLayout$Content;"), (0, .methodref 9 15), (0, .nameAndType 16 17), (0, u "expected"), (0, u "(I)Z"), (0, .methodref 19 20), (0, .class_ 21), (0, .nameAndType 22 23), (0, u "com/example/rublewire/rublewire/rur/DocumentLayout$Content"), (0, u "carriesField"), (0, u "()Z"), (0, .fieldref 19 25), (0, .nameAndType 26 27), (0, u "FIXED"), (0, u "Lcom/example/rublewire/rublewire/rur/DocumentLayout$Content;"), (0, .fieldref 19 29), (0, .nameAndType 30 27), (0, u "UETR"), (0, .fieldref 19 32), (0, .nameAndType 33 27), (0, u "CREATED"), (0, .fieldref 19 35), (0, .nameAndType 36 27), (0, u "REQUISITE"), (0, .fieldref 19 38), (0, .nameAndType 39 27), (0, u "BIC"), (0, .fieldref 19 41), (0, .nameAndType 42 27), (0, u "AMOUNT"), (0, .fieldref 19 44), (0, .nameAndType 45 27), (0, u "LINE"), (0, .fieldref 19 47), (0, .nameAndType 48 27), (0, u "LINES"), (0, .fieldref 19 50), (0, .nameAndType 51 27), (0, u "JOINED"), (0, .fieldref 19 53), (0, .nameAndType 54 27), (0, u "NAME"), (0, .fieldref 19 56), (0, .nameAndType 57 27), (0, u "PLACE"), (2, u "law")] 7

def k1m0 : Method := { name := "<init>", desc := "()V", sig := { parameters := [], returnType := none }, accessFlags := 1, code := none }
def k1c1 : Code := { maxStack := 2, maxLocals := 4, code := code, exceptionTable := #[], attributes := #[] }
def k1m1 : Method := { name := "law", desc := "(I)Z", sig := { parameters := [.int], returnType := some .boolean }, accessFlags := 9, code := some k1c1 }
def k1c2 : Code := { maxStack := 2, maxLocals := 1, code := method_3_code, exceptionTable := #[], attributes := #[] }
def k1m2 : Method := { name := "expected", desc := "(I)Z", sig := { parameters := [.int], returnType := some .boolean }, accessFlags := 10, code := some k1c2 }
def k1c3 : Code := { maxStack := 2, maxLocals := 1, code := method_4_code, exceptionTable := #[], attributes := #[] }
def k1m3 : Method := { name := "pick", desc := "(I)Lcom/example/rublewire/rublewire/rur/DocumentLayout$Content;", sig := { parameters := [.int], returnType := some (.object "com/example/rublewire/rublewire/rur/DocumentLayout$Content") }, accessFlags := 10, code := some k1c3 }
/-- com/example/rublewire/rublewire/rur/ContentCarriesFieldPinLaw -/
def k1 : Class := { plain "com/example/rublewire/rublewire/rur/ContentCarriesFieldPinLaw" (some 0) with
  accessFlags := 49
  interfaces := #[]
  cf := some (fileOf pool1 9 #[] #[{ accessFlags := 1, nameIndex := 5, descriptorIndex := 6, attributes := #[] }, { accessFlags := 9, nameIndex := 60, descriptorIndex := 17, attributes := #[] }, { accessFlags := 10, nameIndex := 16, descriptorIndex := 17, attributes := #[] }, { accessFlags := 10, nameIndex := 12, descriptorIndex := 13, attributes := #[] }] 49 2 #[] #[])
  fields := #[]
  methods := #[k1m0, k1m1, k1m2, k1m3]
  instanceTypes := #[]
  staticTypes := #[]
  resolved := Array.replicate 68 none
  statics := none }

def pool2 : Array CpInfo := pool [(1, .class_ 2), (0, u "java/lang/constant/Constable"), (0, .class_ 4), (0, u "java/lang/Object")] 6

/-- java/lang/constant/Constable -/
def k2 : Class := { plain "java/lang/constant/Constable" (some 0) with
  accessFlags := 1537
  interfaces := #[]
  cf := some (fileOf pool2 1 #[] #[] 1537 3 #[] #[])
  fields := #[]
  methods := #[]
  instanceTypes := #[]
  staticTypes := #[]
  resolved := Array.replicate 11 none
  statics := none }

def pool3 : Array CpInfo := pool [(1, .class_ 2), (0, u "java/lang/Comparable"), (0, .class_ 4), (0, u "java/lang/Object")] 7

/-- java/lang/Comparable -/
def k3 : Class := { plain "java/lang/Comparable" (some 0) with
  accessFlags := 1537
  interfaces := #[]
  cf := some (fileOf pool3 1 #[] #[] 1537 3 #[] #[])
  fields := #[]
  methods := #[]
  instanceTypes := #[]
  staticTypes := #[]
  resolved := Array.replicate 12 none
  statics := none }

def pool4 : Array CpInfo := pool [(1, .class_ 2), (0, u "java/io/Serializable"), (0, .class_ 4), (0, u "java/lang/Object")] 2

/-- java/io/Serializable -/
def k4 : Class := { plain "java/io/Serializable" (some 0) with
  accessFlags := 1537
  interfaces := #[]
  cf := some (fileOf pool4 1 #[] #[] 1537 3 #[] #[])
  fields := #[]
  methods := #[]
  instanceTypes := #[]
  staticTypes := #[]
  resolved := Array.replicate 7 none
  statics := none }

def pool5 : Array CpInfo := pool [(2, .class_ 4), (1, u "java/lang/Enum"), (0, u "name"), (0, u "Ljava/lang/String;"), (2, u "ordinal"), (0, u "I"), (1, .class_ 14), (1, u "java/lang/Object"), (4, u "hash"), (86, .class_ 108), (1, u "java/lang/Enum$EnumDesc"), (2, .class_ 112), (0, u "java/lang/constant/Constable"), (0, .class_ 114), (0, u "java/lang/Comparable"), (0, .class_ 116), (0, u "java/io/Serializable")] 87

/-- java/lang/Enum -/
def k5 : Class := { plain "java/lang/Enum" (some 0) with
  accessFlags := 1057
  interfaces := #[2, 3, 4]
  cf := some (fileOf pool5 2 #[.nestMembers #[106]] #[] 1057 12 #[111, 113, 115] #[{ accessFlags := 18, nameIndex := 5, descriptorIndex := 6, attributes := #[] }, { accessFlags := 18, nameIndex := 9, descriptorIndex := 10, attributes := #[] }, { accessFlags := 2, nameIndex := 19, descriptorIndex := 10, attributes := #[] }])
  fields := #[{ name := "name", type := (.object "java/lang/String"), accessFlags := 18, slot := 0, constantValue := 0 }, { name := "ordinal", type := .int, accessFlags := 18, slot := 1, constantValue := 0 }, { name := "hash", type := .int, accessFlags := 2, slot := 2, constantValue := 0 }]
  methods := #[]
  instanceTypes := #[(.object "java/lang/String"), .int, .int]
  staticTypes := #[]
  resolved := Array.replicate 204 none
  statics := none }

def pool6 : Array CpInfo := pool [(1, .class_ 2), (0, u "com/example/rublewire/rublewire/rur/DocumentLayout$Content"), (2, u "FIXED"), (0, u "Lcom/example/rublewire/rublewire/rur/DocumentLayout$Content;"), (2, u "UETR"), (2, u "CREATED"), (2, u "REQUISITE"), (2, u "BIC"), (2, u "AMOUNT"), (0, .fieldref 1 23), (0, .nameAndType 24 6), (0, u "LINE"), (0, .fieldref 1 26), (0, .nameAndType 27 6), (0, u "LINES"), (0, .fieldref 1 29), (0, .nameAndType 30 6), (0, u "JOINED"), (0, .fieldref 1 32), (0, .nameAndType 33 6), (0, u "NAME"), (0, .fieldref 1 35), (0, .nameAndType 36 6), (0, u "PLACE"), (2, u "$VALUES"), (0, u "[Lcom/example/rublewire/rublewire/rur/DocumentLayout$Content;"), (6, .class_ 49), (1, u "java/lang/Enum"), (29, u "carriesField"), (0, u "()Z"), (6, .class_ 88), (0, u "com/example/rublewire/rublewire/rur/DocumentLayout")] 2

def k6c0 : Code := { maxStack := 2, maxLocals := 1, code := prog_60_method_4_code, exceptionTable := #[], attributes := #[] }
def k6m0 : Method := { name := "carriesField", desc := "()Z", sig := { parameters := [], returnType := some .boolean }, accessFlags := 0, code := some k6c0 }
/-- com/example/rublewire/rublewire/rur/DocumentLayout$Content -/
def k6 : Class := { plain "com/example/rublewire/rublewire/rur/DocumentLayout$Content" (some 5) with
  accessFlags := 16432
  interfaces := #[]
  cf := some (fileOf pool6 1 #[.nestHost 87] #[{ accessFlags := 0, nameIndex := 79, descriptorIndex := 80, attributes := #[] }] 16432 47 #[] #[{ accessFlags := 16409, nameIndex := 5, descriptorIndex := 6, attributes := #[] }, { accessFlags := 16409, nameIndex := 9, descriptorIndex := 6, attributes := #[] }, { accessFlags := 16409, nameIndex := 12, descriptorIndex := 6, attributes := #[] }, { accessFlags := 16409, nameIndex := 15, descriptorIndex := 6, attributes := #[] }, { accessFlags := 16409, nameIndex := 18, descriptorIndex := 6, attributes := #[] }, { accessFlags := 16409, nameIndex := 21, descriptorIndex := 6, attributes := #[] }, { accessFlags := 16409, nameIndex := 24, descriptorIndex := 6, attributes := #[] }, { accessFlags := 16409, nameIndex := 27, descriptorIndex := 6, attributes := #[] }, { accessFlags := 16409, nameIndex := 30, descriptorIndex := 6, attributes := #[] }, { accessFlags := 16409, nameIndex := 33, descriptorIndex := 6, attributes := #[] }, { accessFlags := 16409, nameIndex := 36, descriptorIndex := 6, attributes := #[] }, { accessFlags := 4122, nameIndex := 39, descriptorIndex := 40, attributes := #[] }])
  fields := #[{ name := "FIXED", type := (.object "com/example/rublewire/rublewire/rur/DocumentLayout$Content"), accessFlags := 16409, slot := 0, constantValue := 0 }, { name := "UETR", type := (.object "com/example/rublewire/rublewire/rur/DocumentLayout$Content"), accessFlags := 16409, slot := 1, constantValue := 0 }, { name := "CREATED", type := (.object "com/example/rublewire/rublewire/rur/DocumentLayout$Content"), accessFlags := 16409, slot := 2, constantValue := 0 }, { name := "REQUISITE", type := (.object "com/example/rublewire/rublewire/rur/DocumentLayout$Content"), accessFlags := 16409, slot := 3, constantValue := 0 }, { name := "BIC", type := (.object "com/example/rublewire/rublewire/rur/DocumentLayout$Content"), accessFlags := 16409, slot := 4, constantValue := 0 }, { name := "AMOUNT", type := (.object "com/example/rublewire/rublewire/rur/DocumentLayout$Content"), accessFlags := 16409, slot := 5, constantValue := 0 }, { name := "LINE", type := (.object "com/example/rublewire/rublewire/rur/DocumentLayout$Content"), accessFlags := 16409, slot := 6, constantValue := 0 }, { name := "LINES", type := (.object "com/example/rublewire/rublewire/rur/DocumentLayout$Content"), accessFlags := 16409, slot := 7, constantValue := 0 }, { name := "JOINED", type := (.object "com/example/rublewire/rublewire/rur/DocumentLayout$Content"), accessFlags := 16409, slot := 8, constantValue := 0 }, { name := "NAME", type := (.object "com/example/rublewire/rublewire/rur/DocumentLayout$Content"), accessFlags := 16409, slot := 9, constantValue := 0 }, { name := "PLACE", type := (.object "com/example/rublewire/rublewire/rur/DocumentLayout$Content"), accessFlags := 16409, slot := 10, constantValue := 0 }, { name := "$VALUES", type := (.array (.object "com/example/rublewire/rublewire/rur/DocumentLayout$Content")), accessFlags := 4122, slot := 11, constantValue := 0 }]
  methods := #[k6m0]
  instanceTypes := #[(.object "java/lang/String"), .int, .int]
  staticTypes := #[(.object "com/example/rublewire/rublewire/rur/DocumentLayout$Content"), (.object "com/example/rublewire/rublewire/rur/DocumentLayout$Content"), (.object "com/example/rublewire/rublewire/rur/DocumentLayout$Content"), (.object "com/example/rublewire/rublewire/rur/DocumentLayout$Content"), (.object "com/example/rublewire/rublewire/rur/DocumentLayout$Content"), (.object "com/example/rublewire/rublewire/rur/DocumentLayout$Content"), (.object "com/example/rublewire/rublewire/rur/DocumentLayout$Content"), (.object "com/example/rublewire/rublewire/rur/DocumentLayout$Content"), (.object "com/example/rublewire/rublewire/rur/DocumentLayout$Content"), (.object "com/example/rublewire/rublewire/rur/DocumentLayout$Content"), (.object "com/example/rublewire/rublewire/rur/DocumentLayout$Content"), (.array (.object "com/example/rublewire/rublewire/rur/DocumentLayout$Content"))]
  resolved := Array.replicate 91 none
  statics := some 0 }

def pool7 : Array CpInfo := pool [(1, u "java/lang/Cloneable"), (0, .class_ 1), (0, u "java/lang/Object"), (0, .class_ 3)] 3

/-- java/lang/Cloneable -/
def k7 : Class := { plain "java/lang/Cloneable" (some 0) with
  accessFlags := 1537
  interfaces := #[]
  cf := some (fileOf pool7 2 #[] #[] 1537 4 #[] #[])
  fields := #[]
  methods := #[]
  instanceTypes := #[]
  staticTypes := #[]
  resolved := Array.replicate 8 none
  statics := none }

/-- the primitive byte -/
def k8 : Class := { plain "byte" none with kind := .primitive 'B', accessFlags := 0x411 }
/-- [B -/
def k9 : Class := { plain "[B" (some 0) with kind := .array 8 .byte, interfaces := #[7, 4], accessFlags := 1041 }

/-- the primitive int -/
def k10 : Class := { plain "int" none with kind := .primitive 'I', accessFlags := 0x411 }
/-- [I -/
def k11 : Class := { plain "[I" (some 0) with kind := .array 10 .int, interfaces := #[7, 4], accessFlags := 1041 }

def heap : Heap := #[{ cls := 6, slots := #[.ref 1, .ref 2, .ref 3, .ref 4, .ref 5, .ref 6, .ref 7, .ref 8, .ref 9, .ref 10, .ref 11, .null], vm := .statics 6 },
  { cls := 6, slots := #[.null, .int 0, .int 0], vm := .none },
  { cls := 6, slots := #[.null, .int 1, .int 0], vm := .none },
  { cls := 6, slots := #[.null, .int 2, .int 0], vm := .none },
  { cls := 6, slots := #[.null, .int 3, .int 0], vm := .none },
  { cls := 6, slots := #[.null, .int 4, .int 0], vm := .none },
  { cls := 6, slots := #[.null, .int 5, .int 0], vm := .none },
  { cls := 6, slots := #[.null, .int 6, .int 0], vm := .none },
  { cls := 6, slots := #[.null, .int 7, .int 0], vm := .none },
  { cls := 6, slots := #[.null, .int 8, .int 0], vm := .none },
  { cls := 6, slots := #[.null, .int 9, .int 0], vm := .none },
  { cls := 6, slots := #[.null, .int 10, .int 0], vm := .none }]
def classes : Array Class := #[k0, k1, k2, k3, k4, k5, k6, k7, k8, k9, k10, k11]
def interned : List (Array UInt16 × Addr) := []
def slotsUsed : Nat := 45
def theMethod : MethodId := ⟨1, 1⟩
def args0 : Array Value := #[.int 5]
def aboutOver (below : List Frame) : State where
  vm := { classes := classes, interned := interned.toArray }
  heap := heap
  slotsUsed := slotsUsed
  threads := #[{ frames := .invoking theMethod args0 :: below }]
def below0 : List Frame := [.native { method := ⟨0, 0⟩, args := #[] }]
def about1 : State := aboutOver below0
def p0 : Program := .bare "" "" ""
def e0 : Env := launch0.env 0 0 0
theorem w_frames : about1.frames = Frame.invoking theMethod args0 :: below0 := rfl
set_option maxRecDepth 65536 in
theorem w_args : argsFit about1.vm theMethod args0 = true := by decide +kernel
set_option maxRecDepth 65536 in
theorem w_heap : heapFits about1 = true := by decide +kernel
set_option maxRecDepth 65536 in
theorem w_runnable : about1.curStatus? = some .runnable := by decide +kernel
set_option maxRecDepth 65536 in
theorem w_alone : about1.alone = true := by decide +kernel
set_option maxRecDepth 65536 in
theorem w_named : about1.methodNamed? x = some theMethod := by decide +kernel
set_option maxRecDepth 65536 in
theorem w_hears : about1.hears theMethod below0 = true := by decide +kernel
set_option maxRecDepth 65536 in
theorem w_ripe : about1.ripe theMethod args0 below0 = true := by decide +kernel
theorem w_running : about1.status = .running := rfl
set_option maxRecDepth 65536 in
theorem w_room : about1.hasRoom e0.platform room_1 = true :=
  launch0.hasRoom_least _ room_1 (by decide +kernel) (by decide +kernel) (by decide +kernel) (by decide +kernel) (by decide +kernel) (by decide +kernel)
theorem allAtoms_all (ts : List Jvm.Cond) (a : Array Jvm.Value) (st : Jvm.State) : (allAtoms ts).before a st = ts.all (fun c => c.before a st) := by
  induction ts with
  | nil => rfl
  | cons c t ih =>
    show (Jvm.Cond.and c (allAtoms t)).before a st = _
    rw [Jvm.Cond.before_and, ih, List.all_cons]
def words1 : List Jvm.Cond := Jvm.Cond.code x code maxLocals ret :: tables_1
/-- a 'code' word, met by the world's own term for the bytes: nothing is compared byte by byte -/
theorem code_word {y : MethodName} {bytes : ByteArray} {mx : Nat} {rt : Option FieldType} {a : Array Value} {s : State} {m : MethodId} {meth : Method} {c : Code} (h1 : s.methodNamed? y = some m) (h2 : s.vm.method? m = some meth) (h3 : meth.code = some c) (h4 : c.code = bytes)
    (h5 : (c.maxLocals == mx && c.exceptionTable.isEmpty && decide (c.maxStack ≤ mostOperands) && decide (meth.sig.returnType = rt) && !meth.locks && decide (parseMethodDescriptor y.desc = some meth.sig)) = true) : (Jvm.Cond.code y bytes mx rt).before a s = true := by
  simp only [Bool.and_eq_true, beq_iff_eq, Bool.not_eq_true', decide_eq_true_eq] at h5
  obtain ⟨⟨⟨⟨⟨g1, g2⟩, g3⟩, g4⟩, g5⟩, g6⟩ := h5
  simp [Cond.before, Cond.holds, Cond.value, h1, h2, h3, h4, g1, g2, g3, g4, g5, g6]
def isCode : Jvm.Cond → Bool
  | .code _ _ _ _ => true
  | _ => false
theorem all_split {L : List Jvm.Cond} {P : Jvm.Cond → Bool} (h1 : L.all (fun c => isCode c || P c) = true) (h2 : ∀ c ∈ L.filter isCode, P c = true) : L.all P = true := by
  refine List.all_eq_true.mpr fun c hc => ?_
  have h := List.all_eq_true.mp h1 c hc
  rcases Bool.eq_false_or_eq_true (isCode c) with hi | hi
  · exact h2 c (List.mem_filter.mpr ⟨hc, hi⟩)
  · simpa [hi] using h
set_option maxRecDepth 65536 in
theorem w_c0 : (Jvm.Cond.code x code maxLocals ret).before args0 about1 = true := code_word (m := ⟨1, 1⟩) (meth := k1m1) (c := k1c1) (by decide +kernel) rfl rfl rfl (by decide +kernel)
set_option maxRecDepth 65536 in
theorem w_c1 : (Jvm.Cond.code ({ cls := "com/example/rublewire/rublewire/rur/ContentCarriesFieldPinLaw", name := "pick", desc := "(I)Lcom/example/rublewire/rublewire/rur/DocumentLayout$Content;" } : Jvm.MethodName) method_4_code (1 : Nat) (Option.some (Jvm.ClassFile.FieldType.object "com/example/rublewire/rublewire/rur/DocumentLayout$Content"))).before args0 about1 = true := code_word (m := ⟨1, 3⟩) (meth := k1m3) (c := k1c3) (by decide +kernel) rfl rfl rfl (by decide +kernel)
set_option maxRecDepth 65536 in
theorem w_c2 : (Jvm.Cond.code ({ cls := "com/example/rublewire/rublewire/rur/ContentCarriesFieldPinLaw", name := "expected", desc := "(I)Z" } : Jvm.MethodName) method_3_code (1 : Nat) (Option.some Jvm.ClassFile.FieldType.boolean)).before args0 about1 = true := code_word (m := ⟨1, 2⟩) (meth := k1m2) (c := k1c2) (by decide +kernel) rfl rfl rfl (by decide +kernel)
set_option maxRecDepth 65536 in
theorem w_c3 : (Jvm.Cond.code ({ cls := "com/example/rublewire/rublewire/rur/DocumentLayout$Content", name := "carriesField", desc := "()Z" } : Jvm.MethodName) prog_60_method_4_code (1 : Nat) (Option.some Jvm.ClassFile.FieldType.boolean)).before args0 about1 = true := code_word (m := ⟨6, 0⟩) (meth := k6m0) (c := k6c0) (by decide +kernel) rfl rfl rfl (by decide +kernel)
def codes1 : List Jvm.Cond := [Jvm.Cond.code x code maxLocals ret, Jvm.Cond.code ({ cls := "com/example/rublewire/rublewire/rur/ContentCarriesFieldPinLaw", name := "pick", desc := "(I)Lcom/example/rublewire/rublewire/rur/DocumentLayout$Content;" } : Jvm.MethodName) method_4_code (1 : Nat) (Option.some (Jvm.ClassFile.FieldType.object "com/example/rublewire/rublewire/rur/DocumentLayout$Content")), Jvm.Cond.code ({ cls := "com/example/rublewire/rublewire/rur/ContentCarriesFieldPinLaw", name := "expected", desc := "(I)Z" } : Jvm.MethodName) method_3_code (1 : Nat) (Option.some Jvm.ClassFile.FieldType.boolean), Jvm.Cond.code ({ cls := "com/example/rublewire/rublewire/rur/DocumentLayout$Content", name := "carriesField", desc := "()Z" } : Jvm.MethodName) prog_60_method_4_code (1 : Nat) (Option.some Jvm.ClassFile.FieldType.boolean)]
set_option maxRecDepth 65536 in
theorem codes_eq : words1.filter isCode = codes1 := rfl
theorem w_codes : ∀ c ∈ words1.filter isCode, c.before args0 about1 = true := by
  rw [codes_eq]
  intro c hc
  simp only [codes1, List.mem_cons, List.not_mem_nil, or_false] at hc
  rcases hc with rfl | rfl | rfl | rfl
  · exact w_c0
  · exact w_c1
  · exact w_c2
  · exact w_c3
set_option maxRecDepth 65536 in
theorem w_t1 : (words1.take 24).all (fun c => isCode c || c.before args0 about1) = true := by decide +kernel
set_option maxRecDepth 65536 in
theorem w_t2 : (words1.drop 24).all (fun c => isCode c || c.before args0 about1) = true := by decide +kernel
theorem w_tables : (allAtoms (Jvm.Cond.code x code maxLocals ret :: tables_1)).before args0 about1 = true := by
  rw [allAtoms_all]
  show words1.all (fun c => c.before args0 about1) = true
  refine all_split ?_ w_codes
  rw [← List.take_append_drop 24 words1, List.all_append, w_t1, w_t2]
  rfl
set_option maxRecDepth 65536 in
theorem w_case : (Jvm.Cond.and given_1 narrow_1).before args0 about1 = true := by decide +kernel
theorem w_applies : (headSpec (Jvm.Cond.code x code maxLocals ret :: tables_1) room_1).applies x e0.platform about1 = true :=
  (Spec.applies_iff w_frames).mpr ⟨w_running, w_runnable, w_alone, w_named, w_hears, w_ripe, w_room, w_tables⟩
theorem atStart : AtStart classFile x code maxLocals ret World_1 tables_1 room_1 Calls_1 rest_1 Pre_1 launch0 p0 e0 about1 theMethod args0 below0 :=
  ⟨lists_1, trivial, launch0.admits_env _ _ _, launch0.least_env, fairChoices_fair.cas, fairChoices_fair.clock, w_frames, w_args, w_heap, w_applies, trivial, trivial, w_case⟩
end start1
theorem witness_1 : WitnessClaimed_1 := ⟨start1.p0, start1.e0, start1.about1, start1.theMethod, start1.args0, start1.below0, start1.atStart⟩
end Jvm.Pilot.@@N@@
