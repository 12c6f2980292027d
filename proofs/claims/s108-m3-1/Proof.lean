import JvmDerived
import JvmDerived.Pilot.@@N@@Statement
import JvmDerived.Pilot.@@N@@Code
set_option linter.unusedVariables false
set_option linter.unusedSimpArgs false
namespace Jvm.Pilot.@@N@@
open Jvm Jvm.ClassFile Sem Op Lib Jvm.Free Jvm.Stand Jvm.LawKit Jvm.RoadKit Bundle Jvm.Pilot.@@N@@.Jvm.D
section OwnKit
variable {p : Program} {l : Launch} {e : Env} {R : Room} {s : State} {m : MethodId} {args : Array Value} {below : List Frame} {meth : Method} {c : Code} {T : State} {locs : List Loc} {cells slots : Nat} {Z : State} {a0 : Array Value} {h : Heap} {n0 : Nat} {G : State → Outcome → Prop} {kc ks : Nat} {Q : Option Value → Heap → Prop}
/-- what is left of a walk: from U the body comes to an end of which G holds -/
def own_Go (tb : Tables) (e : Env) (below : List Frame) (G : State → Outcome → Prop) (U : State) : Prop := ∃ s₂ o, Steps tb e below U s₂ ∧ s₂.status = .running ∧ Ended s₂ below o ∧ G s₂ o
theorem own_go {tb : Tables} {U U' : State} (f : ∀ t, Steps tb e below U' t → Steps tb e below U t) (k : own_Go tb e below G U') : own_Go tb e below G U := by
  obtain ⟨a, b, c, d⟩ := k
  exact ⟨a, b, f _ c, d⟩
/-- where the run stands: its heap is h, nothing below n0 has been written -/
def own_At (p : Program) (l : Launch) (e : Env) (R : Room) (s : State) (m : MethodId) (args : Array Value) (below : List Frame) (meth : Method) (c : Code) (n0 : Nat) (T : State) (h : Heap) (cells slots : Nat) : Prop :=
  ∃ locs, Stand p l e R s m args below meth c T locs cells slots ∧ T.heap = h ∧ Fr n0 locs
theorem own_At.here (A : own_At p l e R s m args below meth c n0 T h cells slots) : At T m c below := by obtain ⟨_, X, -, -⟩ := A; exact X.here
theorem own_At.heap (A : own_At p l e R s m args below meth c n0 T h cells slots) : T.heap = h := by obtain ⟨_, -, q, -⟩ := A; exact q
/-- the end of a body: it returns v, Q holds of v and the heap -/
def own_End (n0 : Nat) (s : State) (kc ks : Nat) (Q : Option Value → Heap → Prop) : State → Outcome → Prop := fun s₂ o => ∃ v L, o = .returned v ∧ (Q v s₂.heap ∧ Fr n0 L) ∧ FrameEnd s o s₂ L kc ks
theorem own_leave (A : own_At p l e R s m args below meth c n0 T h cells slots) {v : Option Value} (hv : meth.sig.returnType = none → v = none) (hlk : meth.locks = false) (hc : cells ≤ kc) (hs : slots ≤ ks) (q : Q v h) {U : State}
    (st : ∀ locs, Stand p l e R s m args below meth c T locs cells slots → ∀ fs, (∀ (f : JFrame) (acts : List Action), f.method = m → f.locked = none → f.entered = [] → (doReturn e (T.setTop f) acts v).1 = T.setFrames fs) → Steps p.tables e below U (T.setFrames fs)) : own_Go p.tables e below (own_End n0 s kc ks Q) U := by
  obtain ⟨locs, X, rfl, N⟩ := A
  obtain ⟨fs, hr, hrun, hended, hW, hsame⟩ := X.leave hv hlk
  exact ⟨_, _, st locs X fs hr, hrun, hended, _, _, rfl, ⟨q, N⟩, ⟨_, rfl⟩, hW, hsame.mono hc hs⟩
theorem own_retI (A : own_At p l e R s m args below meth c n0 T h cells slots) (hx : p.tables.exec = Jvm.exec) (hret : meth.sig.returnType = some .int) (hlk : meth.locks = false) (hc : cells ≤ kc) (hs : slots ≤ ks) {pc : Nat} {Ls : Array Slot} {z : Int32} {rest : List Value} (hd : decode c.code pc = .ok (.ireturn, 1)) (q : Q (some (.int z)) h) :
    own_Go p.tables e below (own_End n0 s kc ks Q) (T.setTop (mkF m pc Ls (.int z :: rest))) :=
  own_leave A (fun q => by rw [hret] at q; cases q) hlk hc hs q fun _ X _ hr => retOut X hx hret rfl (Or.inl ⟨rfl, Or.inl rfl, _, rfl⟩) hd hr
theorem own_retN (A : own_At p l e R s m args below meth c n0 T h cells slots) (hx : p.tables.exec = Jvm.exec) {t : FieldType} (hret : meth.sig.returnType = some t) (ht : t = .boolean ∨ t = .byte ∨ t = .char ∨ t = .short) (hlk : meth.locks = false) (hc : cells ≤ kc) (hs : slots ≤ ks) {pc : Nat} {Ls : Array Slot} {z : Int32} {rest : List Value} (hd : decode c.code pc = .ok (.ireturn, 1)) (q : Q (some (.int (nar t z))) h) :
    own_Go p.tables e below (own_End n0 s kc ks Q) (T.setTop (mkF m pc Ls (.int z :: rest))) :=
  own_leave A (fun q => by rw [hret] at q; cases q) hlk hc hs q fun _ X _ hr => retN X hx hret ht hd hr
theorem own_retJ (A : own_At p l e R s m args below meth c n0 T h cells slots) (hx : p.tables.exec = Jvm.exec) (hret : meth.sig.returnType = some .long) (hlk : meth.locks = false) (hc : cells ≤ kc) (hs : slots ≤ ks) {pc : Nat} {Ls : Array Slot} {z : Int64} {rest : List Value} (hd : decode c.code pc = .ok (.lreturn, 1)) (q : Q (some (.long z)) h) :
    own_Go p.tables e below (own_End n0 s kc ks Q) (T.setTop (mkF m pc Ls (.long z :: rest))) :=
  own_leave A (fun q => by rw [hret] at q; cases q) hlk hc hs q fun _ X _ hr => retOut X hx hret rfl (Or.inr (Or.inl ⟨rfl, rfl, _, rfl⟩)) hd hr
theorem own_retD (A : own_At p l e R s m args below meth c n0 T h cells slots) (hx : p.tables.exec = Jvm.exec) (hret : meth.sig.returnType = some .double) (hlk : meth.locks = false) (hc : cells ≤ kc) (hs : slots ≤ ks) {pc : Nat} {Ls : Array Slot} {z : UInt64} {rest : List Value} (hd : decode c.code pc = .ok (.dreturn, 1)) (q : Q (some (.double z)) h) :
    own_Go p.tables e below (own_End n0 s kc ks Q) (T.setTop (mkF m pc Ls (.double z :: rest))) :=
  own_leave A (fun q => by rw [hret] at q; cases q) hlk hc hs q fun _ X _ hr => retOut X hx hret rfl (Or.inr (Or.inr (Or.inl ⟨rfl, rfl, _, rfl⟩))) hd hr
theorem own_retA (A : own_At p l e R s m args below meth c n0 T h cells slots) (hx : p.tables.exec = Jvm.exec) {t : FieldType} (hret : meth.sig.returnType = some t) (ht : t.isReference = true) (hlk : meth.locks = false) (hc : cells ≤ kc) (hs : slots ≤ ks) {pc : Nat} {Ls : Array Slot} {w : Value} (hw : w.isRef = true) {rest : List Value} (hd : decode c.code pc = .ok (.areturn, 1)) (q : Q (some w) h) :
    own_Go p.tables e below (own_End n0 s kc ks Q) (T.setTop (mkF m pc Ls (w :: rest))) :=
  own_leave A (fun q => by rw [hret] at q; cases q) hlk hc hs q fun _ X _ hr => retOut X hx hret (by cases t <;> first | rfl | cases ht) (Or.inr (Or.inr (Or.inr (Or.inr ⟨rfl, ht, hw⟩)))) hd hr
theorem own_retV (A : own_At p l e R s m args below meth c n0 T h cells slots) (hx : p.tables.exec = Jvm.exec) (hret : meth.sig.returnType = none) (hlk : meth.locks = false) (hc : cells ≤ kc) (hs : slots ≤ ks) {pc : Nat} {Ls : Array Slot} (hd : decode c.code pc = .ok (.return_, 1)) (q : Q none h) :
    own_Go p.tables e below (own_End n0 s kc ks Q) (T.setTop (mkF m pc Ls [])) :=
  own_leave A (fun _ => rfl) hlk hc hs q fun _ X _ hr => X.returnOut hx hret hd hr
/-- a body's contract: called with as' at the heap h0 it returns, and Q holds of what it returns and of the heap -/
def own_Met (l : Launch) (Z : State) (n0 : Nat) (y : MethodName) (bytes : ByteArray) (maxL : Nat) (ret : Option FieldType) (rm : Room) (as' : Array Value) (h0 : Heap) (Q : Option Value → Heap → Prop) : Prop :=
  ∀ ws, MetFree l y (head1 (Cond.code y bytes maxL ret :: ws) rm) (fun a U => a = as' ∧ Z.Warmed39 U.vm ∧ U.heap = h0) (fun _ _ _ _ _ => True) (fun _ U o U' => ∃ v L, o = .returned v ∧ (Q v U'.heap ∧ Fr n0 L) ∧ FrameEnd U o U' L rm.cells rm.slots)
theorem own_met {y : MethodName} {bytes : ByteArray} {maxL : Nat} {ret : Option FieldType} {rm : Room} {as' : Array Value} {h0 : Heap} (hp : plainFor y = true)
    (body : ∀ (p : Program) (e : Env) (s : State) (m : MethodId) (below : List Frame) (meth : Method) (c : Code) (T : State), p.tables.exec = Jvm.exec → c.code = bytes → c.maxLocals = maxL → s.vm.findClass y.cls = some m.cls → meth.name = y.name → meth.sig.returnType = ret → meth.locks = false → Z.Warmed39 s.vm →
      own_At p l e rm s m as' below meth c n0 T h0 0 0 → own_Go p.tables e below (own_End n0 s rm.cells rm.slots Q) (T.setTop (entryFrame m as' maxL))) : own_Met l Z n0 y bytes maxL ret rm as' h0 Q := by
  intro ws
  refine MetFree.of_bodySF hp hisR ?_
  intro p e s m args below meth c s₁ Bd hml0 hP hK
  obtain ⟨rfl, hZ, hh⟩ := hP
  exact body p e s m below meth c s₁ Bd.exec Bd.bytes hml0 (findClass_of_methodNamed Bd.named) (name_of_methodNamed Bd.named Bd.method).1 Bd.returns Bd.notSynchronized hZ ⟨[], Stand.of_body Bd, by rw [← hh, Bd.state]; rfl, Fr.nil n0⟩
theorem own_callS (A : own_At p l e R s m args below meth c n0 T h cells slots) (hx : p.tables.exec = Jvm.exec) (hZ : Z.Warmed39 s.vm) {own : String} {index : Nat} {y : MethodName} {bytes : ByteArray} {maxL : Nat} {ret : Option FieldType} (hown : s.vm.findClass own = some m.cls)
    (w1 : (Cond.methodLink own index y).before a0 Z = true) (w2 : (Cond.static y).before a0 Z = true) (w3 : (Cond.initialized y.cls).before a0 Z = true) (w4 : (Cond.code y bytes maxL ret).before a0 Z = true) (hy : y.cls ≠ "java/lang/invoke/MethodHandle" ∧ y.cls ≠ "java/lang/invoke/VarHandle")
    {rm : Room} {argsL rest : List Value} (hM : own_Met l Z n0 y bytes maxL ret rm argsL.toArray h Q) (W : Nat) (hfr : rm.frames + 1 ≤ R.frames) (hlo : W + (maxL + 11) + rm.locals ≤ R.locals) {g : JFrame} (hg : g.method = m) (hsize : g.locals.size = c.maxLocals)
    (hlen : ∀ sig, parseMethodDescriptor y.desc = some sig → argsL.length = sig.parameters.length) (hs : g.stack = argsL.reverse ++ rest) (hW : 2 * g.monitorRoom + (rest.map fun v => v.category).sum ≤ W) (hd : decode c.code g.pc = .ok (.invokestatic index, 3))
    (hc : cells + rm.cells ≤ R.cells) (hl : slots + rm.slots ≤ R.slots)
    (k : ∀ v T' h', own_At p l e R s m args below meth c n0 T' h' (cells + rm.cells) (slots + rm.slots) → Q v h' → own_Go p.tables e below G (T'.setTop { g with pc := g.pc + 3, stack := v.toList ++ rest })) : own_Go p.tables e below G (T.setTop g) := by
  obtain ⟨locs, X, eT, N⟩ := A
  obtain ⟨v, _, ⟨T1, L1, k1, s1⟩, -, X1, ⟨Lc, ⟨hQ, N1⟩, l1, y1, z1⟩, st⟩ := Jvm.LawKit.callS X hx (y := y) hown (mvT hZ w1) (mvT hZ w2) (mvT hZ w3) (mvT hZ w4) hy (backOf (Q := fun v h L => Q v h ∧ Fr n0 L) (W := W) (hM []) hZ w4 w3 hfr hlo) hg hsize (argsL := argsL) (rest := rest) hlen hs hW hd (fun _ _ => ⟨rfl, eT, hc, hl⟩)
  dsimp only [Pt.U, Pt.locs, Pt.cells, Pt.slots] at X1 l1 y1 z1 st hQ
  subst l1 y1 z1
  exact own_go (fun t k => st t k) (k v T1 T1.heap ⟨_, X1, rfl, N.app N1⟩ hQ)
theorem own_callV (A : own_At p l e R s m args below meth c n0 T h cells slots) (hx : p.tables.exec = Jvm.exec) (hZ : Z.Warmed39 s.vm) {own C : String} {index : Nat} {y z : MethodName} {bytes : ByteArray} {maxL : Nat} {ret : Option FieldType} (hown : s.vm.findClass own = some m.cls)
    (w1 : (Cond.methodLink own index y).before a0 Z = true) (w2 : (Cond.declares y).before a0 Z = true) (w3 : (Cond.selects C y z).before a0 Z = true) (w4 : (Cond.instanceMethod z).before a0 Z = true) (w5 : (Cond.initialized z.cls).before a0 Z = true) (w6 : (Cond.code z bytes maxL ret).before a0 Z = true) (nf : NotFace s y)
    (hy : y.cls ≠ "java/lang/invoke/MethodHandle" ∧ y.cls ≠ "java/lang/invoke/VarHandle")
    {rm : Room} {b : Addr} {argsL rest : List Value} (E : Exa Z h b C) (hM : own_Met l Z n0 z bytes maxL ret rm (.ref b :: argsL).toArray h Q) (W : Nat) (hfr : rm.frames + 1 ≤ R.frames) (hlo : W + (maxL + 11) + rm.locals ≤ R.locals) {g : JFrame} (hg : g.method = m) (hsize : g.locals.size = c.maxLocals)
    (hlen : ∀ sig, parseMethodDescriptor y.desc = some sig → argsL.length = sig.parameters.length) (hs : g.stack = argsL.reverse ++ .ref b :: rest) (hW : 2 * g.monitorRoom + (rest.map fun v => v.category).sum ≤ W) (hd : decode c.code g.pc = .ok (.invokevirtual index, 3))
    (hc : cells + rm.cells ≤ R.cells) (hl : slots + rm.slots ≤ R.slots)
    (k : ∀ v T' h', own_At p l e R s m args below meth c n0 T' h' (cells + rm.cells) (slots + rm.slots) → Q v h' → own_Go p.tables e below G (T'.setTop { g with pc := g.pc + 3, stack := v.toList ++ rest })) : own_Go p.tables e below G (T.setTop g) := by
  obtain ⟨locs, X, eT, N⟩ := A
  obtain ⟨cq, kq, qa, qb, qc⟩ := isOf hZ eT E
  obtain ⟨v, _, ⟨T1, L1, k1, s1⟩, -, X1, ⟨Lc, ⟨hQ, N1⟩, l1, y1, z1⟩, st⟩ := X.virtualBack hx (y := y) (z := z) hown (mvT hZ w1) (mvT hZ w2) nf (mvT hZ w3) (mvT hZ w4) hy (backOf (Q := fun v h L => Q v h ∧ Fr n0 L) (W := W) (hM []) hZ w6 w5 hfr hlo) qa qc hg hsize (Steps.refl _) (argsL := argsL) (rest := rest) hlen hs hW hd (fun _ _ => ⟨rfl, eT, hc, hl⟩)
  dsimp only [Pt.U, Pt.locs, Pt.cells, Pt.slots] at X1 l1 y1 z1 st hQ
  subst l1 y1 z1
  exact own_go (fun t k => st.trans k) (k v T1 T1.heap ⟨_, X1, rfl, N.app N1⟩ hQ)
theorem own_callI (A : own_At p l e R s m args below meth c n0 T h cells slots) (hx : p.tables.exec = Jvm.exec) (hZ : Z.Warmed39 s.vm) {own : String} {index : Nat} {y : MethodName} (hy1 : y.name = "<init>") {bytes : ByteArray} {maxL : Nat} (hown : s.vm.findClass own = some m.cls)
    (w1 : (Cond.methodLink own index y).before a0 Z = true) (w4 : (Cond.instanceMethod y).before a0 Z = true) (w5 : (Cond.initialized y.cls).before a0 Z = true) (w6 : (Cond.code y bytes maxL none).before a0 Z = true)
    (hy : y.cls ≠ "java/lang/invoke/MethodHandle" ∧ y.cls ≠ "java/lang/invoke/VarHandle")
    {rm : Room} {b : Addr} {argsL rest : List Value} (hM : own_Met l Z n0 y bytes maxL none rm (.ref b :: argsL).toArray h Q) (W : Nat) (hfr : rm.frames + 1 ≤ R.frames) (hlo : W + (maxL + 11) + rm.locals ≤ R.locals) {g : JFrame} (hg : g.method = m) (hsize : g.locals.size = c.maxLocals)
    (hlen : ∀ sig, parseMethodDescriptor y.desc = some sig → argsL.length = sig.parameters.length) (hs : g.stack = argsL.reverse ++ .ref b :: rest) (hW : 2 * g.monitorRoom + (rest.map fun v => v.category).sum ≤ W) (hd : decode c.code g.pc = .ok (.invokespecial index, 3))
    (hc : cells + rm.cells ≤ R.cells) (hl : slots + rm.slots ≤ R.slots)
    (k : ∀ v T' h', own_At p l e R s m args below meth c n0 T' h' (cells + rm.cells) (slots + rm.slots) → Q v h' → own_Go p.tables e below G (T'.setTop { g with pc := g.pc + 3, stack := v.toList ++ rest })) : own_Go p.tables e below G (T.setTop g) := by
  obtain ⟨locs, X, eT, N⟩ := A
  obtain ⟨v, _, ⟨T1, L1, k1, s1⟩, -, X1, ⟨Lc, ⟨hQ, N1⟩, l1, y1, z1⟩, st⟩ := X.specialBack hx (y := y) hy1 hown (mvT hZ w1) (mvT hZ w4) (mvT hZ w6) hy (backOf (Q := fun v h L => Q v h ∧ Fr n0 L) (W := W) (hM []) hZ w6 w5 hfr hlo) hg hsize (Steps.refl _) (a := b) (argsL := argsL) (rest := rest) hlen hs hW hd (fun _ _ => ⟨rfl, eT, hc, hl⟩)
  dsimp only [Pt.U, Pt.locs, Pt.cells, Pt.slots] at X1 l1 y1 z1 st hQ
  subst l1 y1 z1
  exact own_go (fun t k => st.trans k) (k v T1 T1.heap ⟨_, X1, rfl, N.app N1⟩ hQ)
theorem own_initO (A : own_At p l e R s m args below meth c n0 T h cells slots) (hx : p.tables.exec = Jvm.exec) (hZ : Z.Warmed39 s.vm) {own : String} {idx : Nat} (hown : s.vm.findClass own = some m.cls) (w1 : (Cond.methodLink own idx Lib.objectInit).before a0 Z = true) (w2 : (Cond.instanceMethod Lib.objectInit).before a0 Z = true)
    (w3 : (Cond.code Lib.objectInit ⟨#[0xb1]⟩ 1 none).before a0 Z = true) {g : JFrame} (hg : g.method = m) (hsize : g.locals.size = c.maxLocals) {a : Addr} {rest : List Value} (hs : g.stack = .ref a :: rest) (hd : decode c.code g.pc = .ok (.invokespecial idx, 3))
    (hf : 1 ≤ R.frames) (W : Nat) (hW : 2 * g.monitorRoom + (rest.map fun v => v.category).sum ≤ W) (hl : W + 12 ≤ R.locals)
    (k : ∀ T', own_At p l e R s m args below meth c n0 T' h cells slots → own_Go p.tables e below G (T'.setTop { g with pc := g.pc + 3, stack := rest })) : own_Go p.tables e below G (T.setTop g) := by
  obtain ⟨locs, X, eT, N⟩ := A
  obtain ⟨T1, X1, e1, st⟩ := initO X hx hZ hown w1 w2 w3 eT hg hsize hs hd hf hW hl
  exact own_go st (k T1 ⟨_, X1, e1, N⟩)
theorem own_getF (A : own_At p l e R s m args below meth c n0 T h cells slots) (hx : p.tables.exec = Jvm.exec) (hZ : Z.Warmed39 s.vm) {own R0 O n d host : String} {index : Nat} (hown : s.vm.findClass own = some m.cls) (w : (Cond.fieldLink own index R0 n d).before a0 Z = true ∨ (Cond.fieldLinkNest own index R0 n d host).before a0 Z = true) (via : Via Z R0 O n d)
    {a : Addr} {v : Value} (F : Fld Z h a O n d v) {g : JFrame} (hg : g.method = m) {rest : List Value} (hs : g.stack = .ref a :: rest) (hd : decode c.code g.pc = .ok (.getfield index, 3))
    (k : ∀ T', own_At p l e R s m args below meth c n0 T' h cells slots → own_Go p.tables e below G (T'.setTop { g with pc := g.pc + 3, stack := v :: rest })) : own_Go p.tables e below G (T.setTop g) := by
  obtain ⟨locs, X, eT, N⟩ := A
  obtain ⟨T1, X1, e1, st⟩ := getF X hx hZ hown w via eT F hg hs hd
  exact own_go st (k T1 ⟨_, X1, e1, N⟩)
theorem own_getS (A : own_At p l e R s m args below meth c n0 T h cells slots) (hx : p.tables.exec = Jvm.exec) (hZ : Z.Warmed39 s.vm) {own R0 O n d host : String} {index : Nat} (hown : s.vm.findClass own = some m.cls) (w : (Cond.fieldLink own index R0 n d).before a0 Z = true ∨ (Cond.fieldLinkNest own index R0 n d host).before a0 Z = true) (via : Via Z R0 O n d)
    {v : Value} (F : Sta Z h O n d v) {g : JFrame} (hg : g.method = m) (hd : decode c.code g.pc = .ok (.getstatic index, 3))
    (k : ∀ T', own_At p l e R s m args below meth c n0 T' h cells slots → own_Go p.tables e below G (T'.setTop { g with pc := g.pc + 3, stack := v :: g.stack })) : own_Go p.tables e below G (T.setTop g) := by
  obtain ⟨locs, X, eT, N⟩ := A
  obtain ⟨T1, X1, e1, st⟩ := getS2 X hx hZ hown w via eT F hg hd
  exact own_go st (k T1 ⟨_, X1, e1, N⟩)
theorem own_ldcI (A : own_At p l e R s m args below meth c n0 T h cells slots) (hx : p.tables.exec = Jvm.exec) (hZ : Z.Warmed39 s.vm) {own : String} {index : Nat} {v : Int32} (hown : s.vm.findClass own = some m.cls) (w : (Cond.constant own index v).before a0 Z = true) {g : JFrame} (hg : g.method = m) (hd : decode c.code g.pc = .ok (.ldc index, 2))
    (k : own_Go p.tables e below G (T.setTop { g with pc := g.pc + 2, stack := .int v :: g.stack })) : own_Go p.tables e below G (T.setTop g) := by
  obtain ⟨locs, X, eT, N⟩ := A
  exact own_go (X.ldcInt hx hown (mvT hZ w) hg hd) k
theorem own_ldcwI (A : own_At p l e R s m args below meth c n0 T h cells slots) (hx : p.tables.exec = Jvm.exec) (hZ : Z.Warmed39 s.vm) {own : String} {index : Nat} {v : Int32} (hown : s.vm.findClass own = some m.cls) (w : (Cond.constant own index v).before a0 Z = true) {g : JFrame} (hg : g.method = m) (hd : decode c.code g.pc = .ok (.ldc_w index, 3))
    (k : own_Go p.tables e below G (T.setTop { g with pc := g.pc + 3, stack := .int v :: g.stack })) : own_Go p.tables e below G (T.setTop g) := by
  obtain ⟨locs, X, eT, N⟩ := A
  exact own_go (X.ldcwInt hx hown (mvT hZ w) hg hd) k
theorem own_ldcJ (A : own_At p l e R s m args below meth c n0 T h cells slots) (hx : p.tables.exec = Jvm.exec) (hZ : Z.Warmed39 s.vm) {own : String} {index : Nat} {v : Int64} (hown : s.vm.findClass own = some m.cls) (w : (Cond.constantLong own index v).before a0 Z = true) {g : JFrame} (hg : g.method = m) (hd : decode c.code g.pc = .ok (.ldc2_w index, 3))
    (k : own_Go p.tables e below G (T.setTop { g with pc := g.pc + 3, stack := .long v :: g.stack })) : own_Go p.tables e below G (T.setTop g) := by
  obtain ⟨locs, X, eT, N⟩ := A
  exact own_go (X.ldc2Long hx hown (mvT hZ w) hg hd) k
/-- irem, with Java's sign -/
theorem own_irem {tb : Tables} [Ours tb] {target : State} {g : JFrame} (hh : At T m c below) (hx : tb.exec = Jvm.exec) (hg : g.method = m) {x y : Int32} {rest : List Value} (hd : decode c.code g.pc = .ok (.irem, 1)) (hs : g.stack = .int y :: .int x :: rest) (hy : y ≠ 0)
    (hr : Steps tb e below (T.setTop { g with pc := g.pc + 1, stack := .int (x % y) :: rest }) target) : Steps tb e below (T.setTop g) target :=
  XS.irem hh hx hg hd hs hy (by rw [irem_eq_mod]; exact hr)
theorem own_lrem {tb : Tables} [Ours tb] {target : State} {g : JFrame} (hh : At T m c below) (hx : tb.exec = Jvm.exec) (hg : g.method = m) {x y : Int64} {rest : List Value} (hd : decode c.code g.pc = .ok (.lrem, 1)) (hs : g.stack = .long y :: .long x :: rest) (hy : y ≠ 0)
    (hr : Steps tb e below (T.setTop { g with pc := g.pc + 1, stack := .long (x % y) :: rest }) target) : Steps tb e below (T.setTop g) target :=
  XS.lrem hh hx hg hd hs hy (by rw [lrem_mod]; exact hr)
theorem own_aeq {a b : Addr} (h : a = b) : if_acmp.holds .eq (some a) (some b) = true ∧ if_acmp.holds .ne (some a) (some b) = false := by simp [if_acmp.holds, h]
theorem own_ane {a b : Addr} (h : ¬ a = b) : if_acmp.holds .eq (some a) (some b) = false ∧ if_acmp.holds .ne (some a) (some b) = true := by simp [if_acmp.holds, h]
end OwnKit
section OwnSta
variable {s : State} {args : Array Value} {t : Term} {a : Addr} {C n d K : String} {w : Value}
theorem own_eqV {x y : Term} (hh : (Cond.eq x y).value args s none s [] = some true) (hy : y.eval args s none [] s = some w) : x.eval args s none [] s = some w := by
  cases hx : x.eval args s none [] s with
  | none => simp [Cond.value, hx] at hh
  | some v => cases v <;> cases w <;> simp [Cond.value, hx, hy] at hh ⊢ <;> exact hh
theorem own_sta (hh : (Cond.exactly (Term.static C n d) K).value args s none s [] = some true) (w1 : (Cond.initialized C).before args s = true) (w2 : (Cond.laysStatic C n d).before args s = true) :
    ∃ a, Sta s s.heap C n d (.ref a) ∧ Exa s s.heap a K ∧ (Term.static C n d).eval args s none [] s = some (.ref a) := by
  obtain ⟨a, ev⟩ := exa_v hh
  exact ⟨a, Sta.start ev (Or.inr ⟨w1, w2⟩), Exa.start ev hh, ev⟩
theorem own_fldS {y : Term} (hh : (Cond.eq (Term.field t C n d) y).value args s none s [] = some true) (ev : t.eval args s none [] s = some (.ref a)) (hy : y.eval args s none [] s = some w) : Fld s s.heap a C n d w := by
  have q := own_eqV hh hy
  rw [fld_at ev] at q
  exact Fld.start q
theorem own_baloadZ {p : Program} {l : Launch} {e : Env} {R : Room} {m : MethodId} {below : List Frame} {meth : Method} {c : Code} {T : State} {cells slots : Nat} {Z : State} {h : Heap} {n0 : Nat} {G : State → Outcome → Prop} (A : own_At p l e R s m args below meth c n0 T h cells slots) (hx : p.tables.exec = Jvm.exec) (hZ : Z.Warmed39 s.vm) {cl : Cell} {z j : Int32} (F : Tab Z h a cl .boolean z) (hj : ¬ j < 0 ∧ j < z) {g : JFrame} (hg : g.method = m) {rest : List Value} (hs : g.stack = .int j :: .ref a :: rest) (hd : decode c.code g.pc = .ok (.baload, 1))
    (k : own_Go p.tables e below G (T.setTop { g with pc := g.pc + 1, stack := .int (atv cl j) :: rest })) : own_Go p.tables e below G (T.setTop g) := by
  obtain ⟨locs, X, eT, N⟩ := A
  obtain ⟨A1, S1, -, H1⟩ := F
  have hin := inb_of S1 hj
  exact own_go (fun t k => X.baloadBooleans hx (by rw [eT]; exact A1.1) (State.isArrayOf_alike hZ.alike A1.2.1) A1.2.2 hin (H1 j hin) hg hs hd t k) k
end OwnSta
section OwnTab
variable {s : State} {args : Array Value} {t : Term} {w : Addr} {cl : Cell} {z lo hi v i : Int32}
theorem own_lenI (h : (Cond.eq (Term.length t) (Term.int z)).value args s none s [] = some true) (ev : t.eval args s none [] s = some (.ref w)) (hat : s.arrayAt? w = some cl) : cl.slots.size < 2 ^ 31 ∧ cl.slots.size.toInt32 = z := by
  have q := own_eqV h (Term.int_eval z)
  by_cases hl : cl.slots.size < 2 ^ 31
  · rw [len_f ev hat hl] at q
    exact ⟨hl, Value.int.inj (Option.some.inj q)⟩
  · simp [Term.eval, ev, hat, hl] at q
theorem own_allR (hat : s.arrayAt? w = some cl) (evI : ∀ idx, t.eval args s none idx s = some (.ref w)) (TB : Tab s s.heap w cl .boolean z) (h : (Cond.all t (Cond.or (Cond.lt (Term.index 0) (Term.int lo)) (Cond.or (Cond.le (Term.int hi) (Term.index 0)) (Cond.eq (Term.elem t (Term.index 0)) (Term.int v))))).value args s none s [] = some true) (j : Int32) (h0 : ¬ j < 0) (h1 : j < z) : j < lo ∨ ¬ j < hi ∨ atv cl j = v := by
  have hin := inb_of TB.2.1 ⟨h0, h1⟩
  have q := Cond.all_elim (evI []) hat h j.toNatClampNeg (Nat.lt_of_not_le fun y => hin (Or.inr y))
  exact or3 q (Cond.lt_ints (idx_at h0) (Term.int_eval lo)) (Cond.le_ints (Term.int_eval hi) (idx_at h0)) (Cond.eq_ints ((elem_f (evI _) (idx_at h0) hat h0).trans (TB.2.2.2 j hin)) (Term.int_eval v))
theorem own_allL (hat : s.arrayAt? w = some cl) (evI : ∀ idx, t.eval args s none idx s = some (.ref w)) (TB : Tab s s.heap w cl .boolean z) (h : (Cond.all t (Cond.or (Cond.le (Term.int hi) (Term.index 0)) (Cond.eq (Term.elem t (Term.index 0)) (Term.int v)))).value args s none s [] = some true) (j : Int32) (h0 : ¬ j < 0) (h1 : j < z) : hi ≤ j ∨ atv cl j = v := by
  have hin := inb_of TB.2.1 ⟨h0, h1⟩
  have q := Cond.all_elim (evI []) hat h j.toNatClampNeg (Nat.lt_of_not_le fun y => hin (Or.inr y))
  exact or_e2 (Cond.le_ints (Term.int_eval hi) (idx_at h0)) (Cond.eq_ints ((elem_f (evI _) (idx_at h0) hat h0).trans (TB.2.2.2 j hin)) (Term.int_eval v)) q
theorem own_allG (hat : s.arrayAt? w = some cl) (evI : ∀ idx, t.eval args s none idx s = some (.ref w)) (TB : Tab s s.heap w cl .boolean z) (h : (Cond.all t (Cond.or (Cond.lt (Term.index 0) (Term.int lo)) (Cond.eq (Term.elem t (Term.index 0)) (Term.int v)))).value args s none s [] = some true) (j : Int32) (h0 : ¬ j < 0) (h1 : j < z) : j < lo ∨ atv cl j = v := by
  have hin := inb_of TB.2.1 ⟨h0, h1⟩
  have q := Cond.all_elim (evI []) hat h j.toNatClampNeg (Nat.lt_of_not_le fun y => hin (Or.inr y))
  exact or_e2 (Cond.lt_ints (idx_at h0) (Term.int_eval lo)) (Cond.eq_ints ((elem_f (evI _) (idx_at h0) hat h0).trans (TB.2.2.2 j hin)) (Term.int_eval v)) q
theorem own_elt (evI : ∀ idx, t.eval args s none idx s = some (.ref w)) (hc : s.heap[w]? = some cl) (h : (Cond.eq (Term.elem t (Term.int i)) (Term.int v)).value args s none s [] = some true) : atv cl i = v :=
  atv_of (elem_in (own_eqV h (Term.int_eval v)) (evI []) (Term.int_eval i) hc).2
end OwnTab
theorem ef_1 (m : MethodId) (r0 : Addr) (p1 : Int32) : entryFrame m #[(.ref r0), (.int p1)] 2 = mkF m 0 #[.val (.ref r0), .val (.int p1)] [] := by first | (simp [entryFrame, mkF, argsToLocals, Value.category]; done) | rfl
theorem pn_1 : plainName "com/example/rublewire/rublewire/fin/CharacterSet" = true := by first | (simp [plainName, overriddenIn]; done) | decide +kernel
theorem d1_0 : decode prog_8_method_4_code 0 = .ok (.iload_n 1, 1) := by decide +kernel
theorem d1_1 : decode prog_8_method_4_code 1 = .ok (.ifCond .lt 23, 3) := by decide +kernel
theorem d1_24 : decode prog_8_method_4_code 24 = .ok (.iconst 0, 1) := by decide +kernel
theorem d1_25 : decode prog_8_method_4_code 25 = .ok (.ireturn, 1) := by decide +kernel
theorem d1_4 : decode prog_8_method_4_code 4 = .ok (.iload_n 1, 1) := by decide +kernel
theorem d1_5 : decode prog_8_method_4_code 5 = .ok (.sipush 128, 3) := by decide +kernel
theorem d1_8 : decode prog_8_method_4_code 8 = .ok (.if_icmp .ge 16, 3) := by decide +kernel
theorem d1_11 : decode prog_8_method_4_code 11 = .ok (.aload_n 0, 1) := by decide +kernel
theorem d1_12 : decode prog_8_method_4_code 12 = .ok (.getfield 26, 3) := by decide +kernel
theorem d1_15 : decode prog_8_method_4_code 15 = .ok (.iload_n 1, 1) := by decide +kernel
theorem d1_16 : decode prog_8_method_4_code 16 = .ok (.baload, 1) := by decide +kernel
theorem d1_17 : decode prog_8_method_4_code 17 = .ok (.ifCond .eq 7, 3) := by decide +kernel
theorem d1_20 : decode prog_8_method_4_code 20 = .ok (.iconst 1, 1) := by decide +kernel
theorem d1_21 : decode prog_8_method_4_code 21 = .ok (.goto 4, 3) := by decide +kernel
def f1 (p1 : Int32) (cl : Cell) : Int32 := (if p1 < (0 : Int32) then (0 : Int32) else (if p1 < (128 : Int32) then (nar .boolean (if (atv cl p1) = (0 : Int32) then (0 : Int32) else (1 : Int32))) else (0 : Int32)))
set_option maxRecDepth 65536 in
set_option maxHeartbeats 40000000 in
theorem rm1 (l : Launch) (Z : State) (a0 : Array Value) (hw : ∀ d ∈ tables_1, d.before a0 Z = true) (r0 : Addr) (p1 : Int32) (w_arr : Addr) (cl : Cell) (h0 : Heap) (n0 : Nat) (F_holds : Fld Z h0 r0 "com/example/rublewire/rublewire/fin/CharacterSet" "holds" "[Z" (.ref w_arr)) (TB : Tab Z h0 w_arr cl .boolean 128) :
    own_Met l Z n0 (⟨"com/example/rublewire/rublewire/fin/CharacterSet", "contains", "(I)Z"⟩ : MethodName) prog_8_method_4_code 2 (some .boolean) ({ frames := 0, cells := 0, slots := 0, locals := 0 } : Room) #[(.ref r0), (.int p1)] h0 (fun v h => v = some (.int (f1 p1 cl)) ∧ h0 = h) := by
  refine own_met (plainFor_of_name pn_1) ?_
  intro p e s m below meth c T0 hx hby hml hown hnm hret hlk hZ A0
  rw [ef_1]
  show own_Go _ _ _ _ (T0.setTop (mkF m 0 #[.val (.ref r0), .val (.int p1)] []))
  refine own_go (fun t k => XS.iloadN A0.here hx rfl (hb hby d1_0) rfl k) ?_
  show own_Go _ _ _ _ (T0.setTop (mkF m 1 #[.val (.ref r0), .val (.int p1)] [(.int p1)]))
  by_cases hc1 : p1 < (0 : Int32)
  ·
    refine own_go (fun t k => XS.ifYes A0.here hx rfl (pc0 := 1) (pc' := 24) rfl (hb hby d1_1) rfl ((if0 _ _).trans (tlt hc1).1) (by decide) (by decide) k) ?_
    show own_Go _ _ _ _ (T0.setTop (mkF m 24 #[.val (.ref r0), .val (.int p1)] []))
    refine own_go (fun t k => XS.iconst A0.here hx rfl (hb hby d1_24) k) ?_
    show own_Go _ _ _ _ (T0.setTop (mkF m 25 #[.val (.ref r0), .val (.int p1)] [(.int (0 : Int32))]))
    refine own_retN A0 hx (t := .boolean) hret (by simp) hlk (by decide) (by decide) (hb hby d1_25) ?_
    exact ⟨congrArg (fun z => some (Value.int z)) (by simp only [f1, if_pos hc1] <;> rfl), rfl⟩
  ·
    refine own_go (fun t k => XS.ifNo A0.here hx rfl (hb hby d1_1) rfl ((if0 _ _).trans (flt hc1).1) k) ?_
    show own_Go _ _ _ _ (T0.setTop (mkF m 4 #[.val (.ref r0), .val (.int p1)] []))
    refine own_go (fun t k => XS.iloadN A0.here hx rfl (hb hby d1_4) rfl k) ?_
    show own_Go _ _ _ _ (T0.setTop (mkF m 5 #[.val (.ref r0), .val (.int p1)] [(.int p1)]))
    refine own_go (fun t k => XS.sipush A0.here hx rfl (hb hby d1_5) k) ?_
    show own_Go _ _ _ _ (T0.setTop (mkF m 8 #[.val (.ref r0), .val (.int p1)] [(.int (128 : Int32)), (.int p1)]))
    by_cases hc2 : p1 < (128 : Int32)
    ·
      refine own_go (fun t k => XS.icmpNo A0.here hx rfl (hb hby d1_8) rfl (tlt hc2).2.1 k) ?_
      show own_Go _ _ _ _ (T0.setTop (mkF m 11 #[.val (.ref r0), .val (.int p1)] []))
      refine own_go (fun t k => XS.aloadN A0.here hx rfl (hb hby d1_11) rfl rfl k) ?_
      show own_Go _ _ _ _ (T0.setTop (mkF m 12 #[.val (.ref r0), .val (.int p1)] [(.ref r0)]))
      refine own_getF A0 hx hZ hown (host := "") (Or.inl (hw _ (List.mem_of_getElem? (i := 8) rfl))) Via.refl F_holds rfl rfl (hb hby d1_12) (fun T3 A4 => ?_)
      show own_Go _ _ _ _ (T3.setTop (mkF m 15 #[.val (.ref r0), .val (.int p1)] [(.ref w_arr)]))
      refine own_go (fun t k => XS.iloadN A4.here hx rfl (hb hby d1_15) rfl k) ?_
      show own_Go _ _ _ _ (T3.setTop (mkF m 16 #[.val (.ref r0), .val (.int p1)] [(.int p1), (.ref w_arr)]))
      refine own_baloadZ A4 hx hZ TB ⟨hc1, hc2⟩ rfl rfl (hb hby d1_16) ?_
      show own_Go _ _ _ _ (T3.setTop (mkF m 17 #[.val (.ref r0), .val (.int p1)] [(.int (atv cl p1))]))
      have mg5 : ∀ t, Steps p.tables e below (T3.setTop (mkF m 25 #[.val (.ref r0), .val (.int p1)] [(.int (if (atv cl p1) = (0 : Int32) then (0 : Int32) else (1 : Int32)))])) t → Steps p.tables e below (T3.setTop (mkF m 17 #[.val (.ref r0), .val (.int p1)] [(.int (atv cl p1))])) t := by
        intro t k
        by_cases hm17_0 : (atv cl p1) = (0 : Int32)
        ·
          simp only [if_pos hm17_0] at k
          exact (XS.ifYes A4.here hx rfl (pc0 := 17) (pc' := 24) rfl (hb hby d1_17) rfl ((if0 _ _).trans (teq hm17_0).1) (by decide) (by decide) (XS.iconst A4.here hx rfl (hb hby d1_24) k))
        ·
          simp only [if_neg hm17_0] at k
          exact (XS.ifNo A4.here hx rfl (hb hby d1_17) rfl ((if0 _ _).trans (feq hm17_0).1) (XS.iconst A4.here hx rfl (hb hby d1_20) (XS.goto A4.here hx rfl (pc0 := 21) (pc' := 25) rfl (hb hby d1_21) (by decide) (by decide) k)))
      refine own_go mg5 ?_
      show own_Go _ _ _ _ (T3.setTop (mkF m 25 #[.val (.ref r0), .val (.int p1)] [(.int (if (atv cl p1) = (0 : Int32) then (0 : Int32) else (1 : Int32)))]))
      refine own_retN A4 hx (t := .boolean) hret (by simp) hlk (by decide) (by decide) (hb hby d1_25) ?_
      exact ⟨congrArg (fun z => some (Value.int z)) (by simp only [f1, if_neg hc1, if_pos hc2]), rfl⟩
    ·
      refine own_go (fun t k => XS.icmpYes A0.here hx rfl (pc0 := 8) (pc' := 24) rfl (hb hby d1_8) rfl (flt hc2).2.1 (by decide) (by decide) k) ?_
      show own_Go _ _ _ _ (T0.setTop (mkF m 24 #[.val (.ref r0), .val (.int p1)] []))
      refine own_go (fun t k => XS.iconst A0.here hx rfl (hb hby d1_24) k) ?_
      show own_Go _ _ _ _ (T0.setTop (mkF m 25 #[.val (.ref r0), .val (.int p1)] [(.int (0 : Int32))]))
      refine own_retN A0 hx (t := .boolean) hret (by simp) hlk (by decide) (by decide) (hb hby d1_25) ?_
      exact ⟨congrArg (fun z => some (Value.int z)) (by simp only [f1, if_neg hc1, if_neg hc2] <;> rfl), rfl⟩
theorem d2_42 : decode method_2_code 42 = .ok (.iload_n 0, 1) := by decide +kernel
theorem d2_43 : decode method_2_code 43 = .ok (.bipush 32, 2) := by decide +kernel
theorem d2_45 : decode method_2_code 45 = .ok (.if_icmp .eq 63, 3) := by decide +kernel
theorem d2_108 : decode method_2_code 108 = .ok (.iconst 1, 1) := by decide +kernel
theorem d2_109 : decode method_2_code 109 = .ok (.goto 4, 3) := by decide +kernel
theorem d2_48 : decode method_2_code 48 = .ok (.iload_n 0, 1) := by decide +kernel
theorem d2_49 : decode method_2_code 49 = .ok (.bipush 47, 2) := by decide +kernel
theorem d2_51 : decode method_2_code 51 = .ok (.if_icmp .eq 57, 3) := by decide +kernel
theorem d2_54 : decode method_2_code 54 = .ok (.iload_n 0, 1) := by decide +kernel
theorem d2_55 : decode method_2_code 55 = .ok (.bipush 45, 2) := by decide +kernel
theorem d2_57 : decode method_2_code 57 = .ok (.if_icmp .eq 51, 3) := by decide +kernel
theorem d2_60 : decode method_2_code 60 = .ok (.iload_n 0, 1) := by decide +kernel
theorem d2_61 : decode method_2_code 61 = .ok (.bipush 63, 2) := by decide +kernel
theorem d2_63 : decode method_2_code 63 = .ok (.if_icmp .eq 45, 3) := by decide +kernel
theorem d2_66 : decode method_2_code 66 = .ok (.iload_n 0, 1) := by decide +kernel
theorem d2_67 : decode method_2_code 67 = .ok (.bipush 58, 2) := by decide +kernel
theorem d2_69 : decode method_2_code 69 = .ok (.if_icmp .eq 39, 3) := by decide +kernel
theorem d2_72 : decode method_2_code 72 = .ok (.iload_n 0, 1) := by decide +kernel
theorem d2_73 : decode method_2_code 73 = .ok (.bipush 40, 2) := by decide +kernel
theorem d2_75 : decode method_2_code 75 = .ok (.if_icmp .eq 33, 3) := by decide +kernel
theorem d2_78 : decode method_2_code 78 = .ok (.iload_n 0, 1) := by decide +kernel
theorem d2_79 : decode method_2_code 79 = .ok (.bipush 41, 2) := by decide +kernel
theorem d2_81 : decode method_2_code 81 = .ok (.if_icmp .eq 27, 3) := by decide +kernel
theorem d2_84 : decode method_2_code 84 = .ok (.iload_n 0, 1) := by decide +kernel
theorem d2_85 : decode method_2_code 85 = .ok (.bipush 46, 2) := by decide +kernel
theorem d2_87 : decode method_2_code 87 = .ok (.if_icmp .eq 21, 3) := by decide +kernel
theorem d2_90 : decode method_2_code 90 = .ok (.iload_n 0, 1) := by decide +kernel
theorem d2_91 : decode method_2_code 91 = .ok (.bipush 44, 2) := by decide +kernel
theorem d2_93 : decode method_2_code 93 = .ok (.if_icmp .eq 15, 3) := by decide +kernel
theorem d2_96 : decode method_2_code 96 = .ok (.iload_n 0, 1) := by decide +kernel
theorem d2_97 : decode method_2_code 97 = .ok (.bipush 39, 2) := by decide +kernel
theorem d2_99 : decode method_2_code 99 = .ok (.if_icmp .eq 9, 3) := by decide +kernel
theorem d2_102 : decode method_2_code 102 = .ok (.iload_n 0, 1) := by decide +kernel
theorem d2_103 : decode method_2_code 103 = .ok (.bipush 43, 2) := by decide +kernel
theorem d2_105 : decode method_2_code 105 = .ok (.if_icmp .ne 7, 3) := by decide +kernel
theorem d2_112 : decode method_2_code 112 = .ok (.iconst 0, 1) := by decide +kernel
theorem d2_113 : decode method_2_code 113 = .ok (.ireturn, 1) := by decide +kernel
def f2_42 (p0 : Int32) : Int32 := (nar .boolean (if p0 = (32 : Int32) then (1 : Int32) else (if p0 = (47 : Int32) then (1 : Int32) else (if p0 = (45 : Int32) then (1 : Int32) else (if p0 = (63 : Int32) then (1 : Int32) else (if p0 = (58 : Int32) then (1 : Int32) else (if p0 = (40 : Int32) then (1 : Int32) else (if p0 = (41 : Int32) then (1 : Int32) else (if p0 = (46 : Int32) then (1 : Int32) else (if p0 = (44 : Int32) then (1 : Int32) else (if p0 = (39 : Int32) then (1 : Int32) else (if p0 = (43 : Int32) then (1 : Int32) else (0 : Int32)))))))))))))
set_option maxRecDepth 65536 in
set_option maxHeartbeats 40000000 in
theorem tl2_42 {p : Program} {l : Launch} {e : Env} {R : Room} {s : State} {m : MethodId} {args : Array Value} {below : List Frame} {meth : Method} {c : Code} {Z : State} {a0 : Array Value} {n0 : Nat} (hx : p.tables.exec = Jvm.exec) (hby : c.code = method_2_code) (hml : c.maxLocals = 1) (hown : s.vm.findClass "com/example/rublewire/rublewire/fin/CharacterSetContainsPinLaw" = some m.cls) (hret : meth.sig.returnType = some .boolean) (hlk : meth.locks = false) (hZ : Z.Warmed39 s.vm) (hw : ∀ d ∈ tables_1, d.before a0 Z = true) (p0 : Int32) (h0 : Heap) {T0 : State} {kc ks : Nat} (A0 : own_At p l e R s m args below meth c n0 T0 h0 0 0) :
    own_Go p.tables e below (own_End n0 s kc ks (fun v h => v = some (.int (f2_42 p0)) ∧ h0 = h)) (T0.setTop (mkF m 42 #[.val (.int p0)] [])) := by
  show own_Go _ _ _ _ (T0.setTop (mkF m 42 #[.val (.int p0)] []))
  refine own_go (fun t k => XS.iloadN A0.here hx rfl (hb hby d2_42) rfl k) ?_
  show own_Go _ _ _ _ (T0.setTop (mkF m 43 #[.val (.int p0)] [(.int p0)]))
  refine own_go (fun t k => XS.bipush A0.here hx rfl (hb hby d2_43) k) ?_
  show own_Go _ _ _ _ (T0.setTop (mkF m 45 #[.val (.int p0)] [(.int (32 : Int32)), (.int p0)]))
  have mg1 : ∀ t, Steps p.tables e below (T0.setTop (mkF m 113 #[.val (.int p0)] [(.int (if p0 = (32 : Int32) then (1 : Int32) else (if p0 = (47 : Int32) then (1 : Int32) else (if p0 = (45 : Int32) then (1 : Int32) else (if p0 = (63 : Int32) then (1 : Int32) else (if p0 = (58 : Int32) then (1 : Int32) else (if p0 = (40 : Int32) then (1 : Int32) else (if p0 = (41 : Int32) then (1 : Int32) else (if p0 = (46 : Int32) then (1 : Int32) else (if p0 = (44 : Int32) then (1 : Int32) else (if p0 = (39 : Int32) then (1 : Int32) else (if p0 = (43 : Int32) then (1 : Int32) else (0 : Int32)))))))))))))])) t → Steps p.tables e below (T0.setTop (mkF m 45 #[.val (.int p0)] [(.int (32 : Int32)), (.int p0)])) t := by
    intro t k
    by_cases hm45_0 : p0 = (32 : Int32)
    ·
      simp only [if_pos hm45_0] at k
      exact (XS.icmpYes A0.here hx rfl (pc0 := 45) (pc' := 108) rfl (hb hby d2_45) rfl (teq hm45_0).1 (by decide) (by decide) (XS.iconst A0.here hx rfl (hb hby d2_108) (XS.goto A0.here hx rfl (pc0 := 109) (pc' := 113) rfl (hb hby d2_109) (by decide) (by decide) k)))
    ·
      refine XS.icmpNo A0.here hx rfl (hb hby d2_45) rfl (feq hm45_0).1 (XS.iloadN A0.here hx rfl (hb hby d2_48) rfl (XS.bipush A0.here hx rfl (hb hby d2_49) ?_))
      by_cases hm51_1 : p0 = (47 : Int32)
      ·
        simp only [if_neg hm45_0, if_pos hm51_1] at k
        exact (XS.icmpYes A0.here hx rfl (pc0 := 51) (pc' := 108) rfl (hb hby d2_51) rfl (teq hm51_1).1 (by decide) (by decide) (XS.iconst A0.here hx rfl (hb hby d2_108) (XS.goto A0.here hx rfl (pc0 := 109) (pc' := 113) rfl (hb hby d2_109) (by decide) (by decide) k)))
      ·
        refine XS.icmpNo A0.here hx rfl (hb hby d2_51) rfl (feq hm51_1).1 (XS.iloadN A0.here hx rfl (hb hby d2_54) rfl (XS.bipush A0.here hx rfl (hb hby d2_55) ?_))
        by_cases hm57_2 : p0 = (45 : Int32)
        ·
          simp only [if_neg hm45_0, if_neg hm51_1, if_pos hm57_2] at k
          exact (XS.icmpYes A0.here hx rfl (pc0 := 57) (pc' := 108) rfl (hb hby d2_57) rfl (teq hm57_2).1 (by decide) (by decide) (XS.iconst A0.here hx rfl (hb hby d2_108) (XS.goto A0.here hx rfl (pc0 := 109) (pc' := 113) rfl (hb hby d2_109) (by decide) (by decide) k)))
        ·
          refine XS.icmpNo A0.here hx rfl (hb hby d2_57) rfl (feq hm57_2).1 (XS.iloadN A0.here hx rfl (hb hby d2_60) rfl (XS.bipush A0.here hx rfl (hb hby d2_61) ?_))
          by_cases hm63_3 : p0 = (63 : Int32)
          ·
            simp only [if_neg hm45_0, if_neg hm51_1, if_neg hm57_2, if_pos hm63_3] at k
            exact (XS.icmpYes A0.here hx rfl (pc0 := 63) (pc' := 108) rfl (hb hby d2_63) rfl (teq hm63_3).1 (by decide) (by decide) (XS.iconst A0.here hx rfl (hb hby d2_108) (XS.goto A0.here hx rfl (pc0 := 109) (pc' := 113) rfl (hb hby d2_109) (by decide) (by decide) k)))
          ·
            refine XS.icmpNo A0.here hx rfl (hb hby d2_63) rfl (feq hm63_3).1 (XS.iloadN A0.here hx rfl (hb hby d2_66) rfl (XS.bipush A0.here hx rfl (hb hby d2_67) ?_))
            by_cases hm69_4 : p0 = (58 : Int32)
            ·
              simp only [if_neg hm45_0, if_neg hm51_1, if_neg hm57_2, if_neg hm63_3, if_pos hm69_4] at k
              exact (XS.icmpYes A0.here hx rfl (pc0 := 69) (pc' := 108) rfl (hb hby d2_69) rfl (teq hm69_4).1 (by decide) (by decide) (XS.iconst A0.here hx rfl (hb hby d2_108) (XS.goto A0.here hx rfl (pc0 := 109) (pc' := 113) rfl (hb hby d2_109) (by decide) (by decide) k)))
            ·
              refine XS.icmpNo A0.here hx rfl (hb hby d2_69) rfl (feq hm69_4).1 (XS.iloadN A0.here hx rfl (hb hby d2_72) rfl (XS.bipush A0.here hx rfl (hb hby d2_73) ?_))
              by_cases hm75_5 : p0 = (40 : Int32)
              ·
                simp only [if_neg hm45_0, if_neg hm51_1, if_neg hm57_2, if_neg hm63_3, if_neg hm69_4, if_pos hm75_5] at k
                exact (XS.icmpYes A0.here hx rfl (pc0 := 75) (pc' := 108) rfl (hb hby d2_75) rfl (teq hm75_5).1 (by decide) (by decide) (XS.iconst A0.here hx rfl (hb hby d2_108) (XS.goto A0.here hx rfl (pc0 := 109) (pc' := 113) rfl (hb hby d2_109) (by decide) (by decide) k)))
              ·
                refine XS.icmpNo A0.here hx rfl (hb hby d2_75) rfl (feq hm75_5).1 (XS.iloadN A0.here hx rfl (hb hby d2_78) rfl (XS.bipush A0.here hx rfl (hb hby d2_79) ?_))
                by_cases hm81_6 : p0 = (41 : Int32)
                ·
                  simp only [if_neg hm45_0, if_neg hm51_1, if_neg hm57_2, if_neg hm63_3, if_neg hm69_4, if_neg hm75_5, if_pos hm81_6] at k
                  exact (XS.icmpYes A0.here hx rfl (pc0 := 81) (pc' := 108) rfl (hb hby d2_81) rfl (teq hm81_6).1 (by decide) (by decide) (XS.iconst A0.here hx rfl (hb hby d2_108) (XS.goto A0.here hx rfl (pc0 := 109) (pc' := 113) rfl (hb hby d2_109) (by decide) (by decide) k)))
                ·
                  refine XS.icmpNo A0.here hx rfl (hb hby d2_81) rfl (feq hm81_6).1 (XS.iloadN A0.here hx rfl (hb hby d2_84) rfl (XS.bipush A0.here hx rfl (hb hby d2_85) ?_))
                  by_cases hm87_7 : p0 = (46 : Int32)
                  ·
                    simp only [if_neg hm45_0, if_neg hm51_1, if_neg hm57_2, if_neg hm63_3, if_neg hm69_4, if_neg hm75_5, if_neg hm81_6, if_pos hm87_7] at k
                    exact (XS.icmpYes A0.here hx rfl (pc0 := 87) (pc' := 108) rfl (hb hby d2_87) rfl (teq hm87_7).1 (by decide) (by decide) (XS.iconst A0.here hx rfl (hb hby d2_108) (XS.goto A0.here hx rfl (pc0 := 109) (pc' := 113) rfl (hb hby d2_109) (by decide) (by decide) k)))
                  ·
                    refine XS.icmpNo A0.here hx rfl (hb hby d2_87) rfl (feq hm87_7).1 (XS.iloadN A0.here hx rfl (hb hby d2_90) rfl (XS.bipush A0.here hx rfl (hb hby d2_91) ?_))
                    by_cases hm93_8 : p0 = (44 : Int32)
                    ·
                      simp only [if_neg hm45_0, if_neg hm51_1, if_neg hm57_2, if_neg hm63_3, if_neg hm69_4, if_neg hm75_5, if_neg hm81_6, if_neg hm87_7, if_pos hm93_8] at k
                      exact (XS.icmpYes A0.here hx rfl (pc0 := 93) (pc' := 108) rfl (hb hby d2_93) rfl (teq hm93_8).1 (by decide) (by decide) (XS.iconst A0.here hx rfl (hb hby d2_108) (XS.goto A0.here hx rfl (pc0 := 109) (pc' := 113) rfl (hb hby d2_109) (by decide) (by decide) k)))
                    ·
                      refine XS.icmpNo A0.here hx rfl (hb hby d2_93) rfl (feq hm93_8).1 (XS.iloadN A0.here hx rfl (hb hby d2_96) rfl (XS.bipush A0.here hx rfl (hb hby d2_97) ?_))
                      by_cases hm99_9 : p0 = (39 : Int32)
                      ·
                        simp only [if_neg hm45_0, if_neg hm51_1, if_neg hm57_2, if_neg hm63_3, if_neg hm69_4, if_neg hm75_5, if_neg hm81_6, if_neg hm87_7, if_neg hm93_8, if_pos hm99_9] at k
                        exact (XS.icmpYes A0.here hx rfl (pc0 := 99) (pc' := 108) rfl (hb hby d2_99) rfl (teq hm99_9).1 (by decide) (by decide) (XS.iconst A0.here hx rfl (hb hby d2_108) (XS.goto A0.here hx rfl (pc0 := 109) (pc' := 113) rfl (hb hby d2_109) (by decide) (by decide) k)))
                      ·
                        refine XS.icmpNo A0.here hx rfl (hb hby d2_99) rfl (feq hm99_9).1 (XS.iloadN A0.here hx rfl (hb hby d2_102) rfl (XS.bipush A0.here hx rfl (hb hby d2_103) ?_))
                        by_cases hm105_10 : p0 = (43 : Int32)
                        ·
                          simp only [if_neg hm45_0, if_neg hm51_1, if_neg hm57_2, if_neg hm63_3, if_neg hm69_4, if_neg hm75_5, if_neg hm81_6, if_neg hm87_7, if_neg hm93_8, if_neg hm99_9, if_pos hm105_10] at k
                          exact (XS.icmpNo A0.here hx rfl (hb hby d2_105) rfl (teq hm105_10).2 (XS.iconst A0.here hx rfl (hb hby d2_108) (XS.goto A0.here hx rfl (pc0 := 109) (pc' := 113) rfl (hb hby d2_109) (by decide) (by decide) k)))
                        ·
                          simp only [if_neg hm45_0, if_neg hm51_1, if_neg hm57_2, if_neg hm63_3, if_neg hm69_4, if_neg hm75_5, if_neg hm81_6, if_neg hm87_7, if_neg hm93_8, if_neg hm99_9, if_neg hm105_10] at k
                          exact (XS.icmpYes A0.here hx rfl (pc0 := 105) (pc' := 112) rfl (hb hby d2_105) rfl (feq hm105_10).2 (by decide) (by decide) (XS.iconst A0.here hx rfl (hb hby d2_112) k))
  refine own_go mg1 ?_
  show own_Go _ _ _ _ (T0.setTop (mkF m 113 #[.val (.int p0)] [(.int (if p0 = (32 : Int32) then (1 : Int32) else (if p0 = (47 : Int32) then (1 : Int32) else (if p0 = (45 : Int32) then (1 : Int32) else (if p0 = (63 : Int32) then (1 : Int32) else (if p0 = (58 : Int32) then (1 : Int32) else (if p0 = (40 : Int32) then (1 : Int32) else (if p0 = (41 : Int32) then (1 : Int32) else (if p0 = (46 : Int32) then (1 : Int32) else (if p0 = (44 : Int32) then (1 : Int32) else (if p0 = (39 : Int32) then (1 : Int32) else (if p0 = (43 : Int32) then (1 : Int32) else (0 : Int32)))))))))))))]))
  generalize hx2 : (if p0 = (32 : Int32) then (1 : Int32) else (if p0 = (47 : Int32) then (1 : Int32) else (if p0 = (45 : Int32) then (1 : Int32) else (if p0 = (63 : Int32) then (1 : Int32) else (if p0 = (58 : Int32) then (1 : Int32) else (if p0 = (40 : Int32) then (1 : Int32) else (if p0 = (41 : Int32) then (1 : Int32) else (if p0 = (46 : Int32) then (1 : Int32) else (if p0 = (44 : Int32) then (1 : Int32) else (if p0 = (39 : Int32) then (1 : Int32) else (if p0 = (43 : Int32) then (1 : Int32) else (0 : Int32)))))))))))) = x2
  show own_Go _ _ _ _ (T0.setTop (mkF m 113 #[.val (.int p0)] [(.int x2)]))
  refine own_retN A0 hx (t := .boolean) hret (by simp) hlk (Nat.zero_le _) (Nat.zero_le _) (hb hby d2_113) ?_
  subst hx2
  exact ⟨rfl, rfl⟩
theorem d2_28 : decode method_2_code 28 = .ok (.iload_n 0, 1) := by decide +kernel
theorem d2_29 : decode method_2_code 29 = .ok (.bipush 48, 2) := by decide +kernel
theorem d2_31 : decode method_2_code 31 = .ok (.if_icmp .lt 11, 3) := by decide +kernel
theorem d2_34 : decode method_2_code 34 = .ok (.iload_n 0, 1) := by decide +kernel
theorem d2_35 : decode method_2_code 35 = .ok (.bipush 57, 2) := by decide +kernel
theorem d2_37 : decode method_2_code 37 = .ok (.if_icmp .gt 5, 3) := by decide +kernel
theorem d2_40 : decode method_2_code 40 = .ok (.iconst 1, 1) := by decide +kernel
theorem d2_41 : decode method_2_code 41 = .ok (.ireturn, 1) := by decide +kernel
def f2_28 (p0 : Int32) : Int32 := (if p0 < (48 : Int32) then (f2_42 p0) else (if (57 : Int32) < p0 then (f2_42 p0) else (1 : Int32)))
set_option maxRecDepth 65536 in
set_option maxHeartbeats 40000000 in
theorem tl2_28 {p : Program} {l : Launch} {e : Env} {R : Room} {s : State} {m : MethodId} {args : Array Value} {below : List Frame} {meth : Method} {c : Code} {Z : State} {a0 : Array Value} {n0 : Nat} (hx : p.tables.exec = Jvm.exec) (hby : c.code = method_2_code) (hml : c.maxLocals = 1) (hown : s.vm.findClass "com/example/rublewire/rublewire/fin/CharacterSetContainsPinLaw" = some m.cls) (hret : meth.sig.returnType = some .boolean) (hlk : meth.locks = false) (hZ : Z.Warmed39 s.vm) (hw : ∀ d ∈ tables_1, d.before a0 Z = true) (p0 : Int32) (h0 : Heap) {T0 : State} {kc ks : Nat} (A0 : own_At p l e R s m args below meth c n0 T0 h0 0 0) :
    own_Go p.tables e below (own_End n0 s kc ks (fun v h => v = some (.int (f2_28 p0)) ∧ h0 = h)) (T0.setTop (mkF m 28 #[.val (.int p0)] [])) := by
  show own_Go _ _ _ _ (T0.setTop (mkF m 28 #[.val (.int p0)] []))
  refine own_go (fun t k => XS.iloadN A0.here hx rfl (hb hby d2_28) rfl k) ?_
  show own_Go _ _ _ _ (T0.setTop (mkF m 29 #[.val (.int p0)] [(.int p0)]))
  refine own_go (fun t k => XS.bipush A0.here hx rfl (hb hby d2_29) k) ?_
  show own_Go _ _ _ _ (T0.setTop (mkF m 31 #[.val (.int p0)] [(.int (48 : Int32)), (.int p0)]))
  by_cases hc1 : p0 < (48 : Int32)
  ·
    refine own_go (fun t k => XS.icmpYes A0.here hx rfl (pc0 := 31) (pc' := 42) rfl (hb hby d2_31) rfl (tlt hc1).1 (by decide) (by decide) k) ?_
    show own_Go _ _ _ _ (T0.setTop (mkF m 42 #[.val (.int p0)] []))
    rw [show f2_28 p0 = f2_42 p0 by simp only [f2_28, if_pos hc1]]
    exact tl2_42 hx hby hml hown hret hlk hZ hw p0 h0  A0
  ·
    refine own_go (fun t k => XS.icmpNo A0.here hx rfl (hb hby d2_31) rfl (flt hc1).1 k) ?_
    show own_Go _ _ _ _ (T0.setTop (mkF m 34 #[.val (.int p0)] []))
    refine own_go (fun t k => XS.iloadN A0.here hx rfl (hb hby d2_34) rfl k) ?_
    show own_Go _ _ _ _ (T0.setTop (mkF m 35 #[.val (.int p0)] [(.int p0)]))
    refine own_go (fun t k => XS.bipush A0.here hx rfl (hb hby d2_35) k) ?_
    show own_Go _ _ _ _ (T0.setTop (mkF m 37 #[.val (.int p0)] [(.int (57 : Int32)), (.int p0)]))
    by_cases hc2 : (57 : Int32) < p0
    ·
      refine own_go (fun t k => XS.icmpYes A0.here hx rfl (pc0 := 37) (pc' := 42) rfl (hb hby d2_37) rfl (tlt hc2).2.2.1 (by decide) (by decide) k) ?_
      show own_Go _ _ _ _ (T0.setTop (mkF m 42 #[.val (.int p0)] []))
      rw [show f2_28 p0 = f2_42 p0 by simp only [f2_28, if_neg hc1, if_pos hc2]]
      exact tl2_42 hx hby hml hown hret hlk hZ hw p0 h0  A0
    ·
      refine own_go (fun t k => XS.icmpNo A0.here hx rfl (hb hby d2_37) rfl (flt hc2).2.2.1 k) ?_
      show own_Go _ _ _ _ (T0.setTop (mkF m 40 #[.val (.int p0)] []))
      refine own_go (fun t k => XS.iconst A0.here hx rfl (hb hby d2_40) k) ?_
      show own_Go _ _ _ _ (T0.setTop (mkF m 41 #[.val (.int p0)] [(.int (1 : Int32))]))
      refine own_retN A0 hx (t := .boolean) hret (by simp) hlk (Nat.zero_le _) (Nat.zero_le _) (hb hby d2_41) ?_
      exact ⟨congrArg (fun z => some (Value.int z)) (by simp only [f2_28, if_neg hc1, if_neg hc2] <;> rfl), rfl⟩
theorem d2_14 : decode method_2_code 14 = .ok (.iload_n 0, 1) := by decide +kernel
theorem d2_15 : decode method_2_code 15 = .ok (.bipush 97, 2) := by decide +kernel
theorem d2_17 : decode method_2_code 17 = .ok (.if_icmp .lt 11, 3) := by decide +kernel
theorem d2_20 : decode method_2_code 20 = .ok (.iload_n 0, 1) := by decide +kernel
theorem d2_21 : decode method_2_code 21 = .ok (.bipush 122, 2) := by decide +kernel
theorem d2_23 : decode method_2_code 23 = .ok (.if_icmp .gt 5, 3) := by decide +kernel
theorem d2_26 : decode method_2_code 26 = .ok (.iconst 1, 1) := by decide +kernel
theorem d2_27 : decode method_2_code 27 = .ok (.ireturn, 1) := by decide +kernel
def f2_14 (p0 : Int32) : Int32 := (if p0 < (97 : Int32) then (f2_28 p0) else (if (122 : Int32) < p0 then (f2_28 p0) else (1 : Int32)))
set_option maxRecDepth 65536 in
set_option maxHeartbeats 40000000 in
theorem tl2_14 {p : Program} {l : Launch} {e : Env} {R : Room} {s : State} {m : MethodId} {args : Array Value} {below : List Frame} {meth : Method} {c : Code} {Z : State} {a0 : Array Value} {n0 : Nat} (hx : p.tables.exec = Jvm.exec) (hby : c.code = method_2_code) (hml : c.maxLocals = 1) (hown : s.vm.findClass "com/example/rublewire/rublewire/fin/CharacterSetContainsPinLaw" = some m.cls) (hret : meth.sig.returnType = some .boolean) (hlk : meth.locks = false) (hZ : Z.Warmed39 s.vm) (hw : ∀ d ∈ tables_1, d.before a0 Z = true) (p0 : Int32) (h0 : Heap) {T0 : State} {kc ks : Nat} (A0 : own_At p l e R s m args below meth c n0 T0 h0 0 0) :
    own_Go p.tables e below (own_End n0 s kc ks (fun v h => v = some (.int (f2_14 p0)) ∧ h0 = h)) (T0.setTop (mkF m 14 #[.val (.int p0)] [])) := by
  show own_Go _ _ _ _ (T0.setTop (mkF m 14 #[.val (.int p0)] []))
  refine own_go (fun t k => XS.iloadN A0.here hx rfl (hb hby d2_14) rfl k) ?_
  show own_Go _ _ _ _ (T0.setTop (mkF m 15 #[.val (.int p0)] [(.int p0)]))
  refine own_go (fun t k => XS.bipush A0.here hx rfl (hb hby d2_15) k) ?_
  show own_Go _ _ _ _ (T0.setTop (mkF m 17 #[.val (.int p0)] [(.int (97 : Int32)), (.int p0)]))
  by_cases hc1 : p0 < (97 : Int32)
  ·
    refine own_go (fun t k => XS.icmpYes A0.here hx rfl (pc0 := 17) (pc' := 28) rfl (hb hby d2_17) rfl (tlt hc1).1 (by decide) (by decide) k) ?_
    show own_Go _ _ _ _ (T0.setTop (mkF m 28 #[.val (.int p0)] []))
    rw [show f2_14 p0 = f2_28 p0 by simp only [f2_14, if_pos hc1]]
    exact tl2_28 hx hby hml hown hret hlk hZ hw p0 h0  A0
  ·
    refine own_go (fun t k => XS.icmpNo A0.here hx rfl (hb hby d2_17) rfl (flt hc1).1 k) ?_
    show own_Go _ _ _ _ (T0.setTop (mkF m 20 #[.val (.int p0)] []))
    refine own_go (fun t k => XS.iloadN A0.here hx rfl (hb hby d2_20) rfl k) ?_
    show own_Go _ _ _ _ (T0.setTop (mkF m 21 #[.val (.int p0)] [(.int p0)]))
    refine own_go (fun t k => XS.bipush A0.here hx rfl (hb hby d2_21) k) ?_
    show own_Go _ _ _ _ (T0.setTop (mkF m 23 #[.val (.int p0)] [(.int (122 : Int32)), (.int p0)]))
    by_cases hc2 : (122 : Int32) < p0
    ·
      refine own_go (fun t k => XS.icmpYes A0.here hx rfl (pc0 := 23) (pc' := 28) rfl (hb hby d2_23) rfl (tlt hc2).2.2.1 (by decide) (by decide) k) ?_
      show own_Go _ _ _ _ (T0.setTop (mkF m 28 #[.val (.int p0)] []))
      rw [show f2_14 p0 = f2_28 p0 by simp only [f2_14, if_neg hc1, if_pos hc2]]
      exact tl2_28 hx hby hml hown hret hlk hZ hw p0 h0  A0
    ·
      refine own_go (fun t k => XS.icmpNo A0.here hx rfl (hb hby d2_23) rfl (flt hc2).2.2.1 k) ?_
      show own_Go _ _ _ _ (T0.setTop (mkF m 26 #[.val (.int p0)] []))
      refine own_go (fun t k => XS.iconst A0.here hx rfl (hb hby d2_26) k) ?_
      show own_Go _ _ _ _ (T0.setTop (mkF m 27 #[.val (.int p0)] [(.int (1 : Int32))]))
      refine own_retN A0 hx (t := .boolean) hret (by simp) hlk (Nat.zero_le _) (Nat.zero_le _) (hb hby d2_27) ?_
      exact ⟨congrArg (fun z => some (Value.int z)) (by simp only [f2_14, if_neg hc1, if_neg hc2] <;> rfl), rfl⟩
theorem ef_2 (m : MethodId) (p0 : Int32) : entryFrame m #[(.int p0)] 1 = mkF m 0 #[.val (.int p0)] [] := by first | (simp [entryFrame, mkF, argsToLocals, Value.category]; done) | rfl
theorem pn_2 : plainName "com/example/rublewire/rublewire/fin/CharacterSetContainsPinLaw" = true := by first | (simp [plainName, overriddenIn]; done) | decide +kernel
theorem d2_0 : decode method_2_code 0 = .ok (.iload_n 0, 1) := by decide +kernel
theorem d2_1 : decode method_2_code 1 = .ok (.bipush 65, 2) := by decide +kernel
theorem d2_3 : decode method_2_code 3 = .ok (.if_icmp .lt 11, 3) := by decide +kernel
theorem d2_6 : decode method_2_code 6 = .ok (.iload_n 0, 1) := by decide +kernel
theorem d2_7 : decode method_2_code 7 = .ok (.bipush 90, 2) := by decide +kernel
theorem d2_9 : decode method_2_code 9 = .ok (.if_icmp .gt 5, 3) := by decide +kernel
theorem d2_12 : decode method_2_code 12 = .ok (.iconst 1, 1) := by decide +kernel
theorem d2_13 : decode method_2_code 13 = .ok (.ireturn, 1) := by decide +kernel
def f2 (p0 : Int32) : Int32 := (if p0 < (65 : Int32) then (f2_14 p0) else (if (90 : Int32) < p0 then (f2_14 p0) else (1 : Int32)))
set_option maxRecDepth 65536 in
set_option maxHeartbeats 40000000 in
theorem rm2 (l : Launch) (Z : State) (a0 : Array Value) (hw : ∀ d ∈ tables_1, d.before a0 Z = true) (p0 : Int32) (h0 : Heap) (n0 : Nat) :
    own_Met l Z n0 (⟨"com/example/rublewire/rublewire/fin/CharacterSetContainsPinLaw", "ref", "(I)Z"⟩ : MethodName) method_2_code 1 (some .boolean) ({ frames := 0, cells := 0, slots := 0, locals := 0 } : Room) #[(.int p0)] h0 (fun v h => v = some (.int (f2 p0)) ∧ h0 = h) := by
  refine own_met (plainFor_of_name pn_2) ?_
  intro p e s m below meth c T0 hx hby hml hown hnm hret hlk hZ A0
  rw [ef_2]
  show own_Go _ _ _ _ (T0.setTop (mkF m 0 #[.val (.int p0)] []))
  refine own_go (fun t k => XS.iloadN A0.here hx rfl (hb hby d2_0) rfl k) ?_
  show own_Go _ _ _ _ (T0.setTop (mkF m 1 #[.val (.int p0)] [(.int p0)]))
  refine own_go (fun t k => XS.bipush A0.here hx rfl (hb hby d2_1) k) ?_
  show own_Go _ _ _ _ (T0.setTop (mkF m 3 #[.val (.int p0)] [(.int (65 : Int32)), (.int p0)]))
  by_cases hc1 : p0 < (65 : Int32)
  ·
    refine own_go (fun t k => XS.icmpYes A0.here hx rfl (pc0 := 3) (pc' := 14) rfl (hb hby d2_3) rfl (tlt hc1).1 (by decide) (by decide) k) ?_
    show own_Go _ _ _ _ (T0.setTop (mkF m 14 #[.val (.int p0)] []))
    rw [show f2 p0 = f2_14 p0 by simp only [f2, if_pos hc1]]
    exact tl2_14 hx hby hml hown hret hlk hZ hw p0 h0  A0
  ·
    refine own_go (fun t k => XS.icmpNo A0.here hx rfl (hb hby d2_3) rfl (flt hc1).1 k) ?_
    show own_Go _ _ _ _ (T0.setTop (mkF m 6 #[.val (.int p0)] []))
    refine own_go (fun t k => XS.iloadN A0.here hx rfl (hb hby d2_6) rfl k) ?_
    show own_Go _ _ _ _ (T0.setTop (mkF m 7 #[.val (.int p0)] [(.int p0)]))
    refine own_go (fun t k => XS.bipush A0.here hx rfl (hb hby d2_7) k) ?_
    show own_Go _ _ _ _ (T0.setTop (mkF m 9 #[.val (.int p0)] [(.int (90 : Int32)), (.int p0)]))
    by_cases hc2 : (90 : Int32) < p0
    ·
      refine own_go (fun t k => XS.icmpYes A0.here hx rfl (pc0 := 9) (pc' := 14) rfl (hb hby d2_9) rfl (tlt hc2).2.2.1 (by decide) (by decide) k) ?_
      show own_Go _ _ _ _ (T0.setTop (mkF m 14 #[.val (.int p0)] []))
      rw [show f2 p0 = f2_14 p0 by simp only [f2, if_neg hc1, if_pos hc2]]
      exact tl2_14 hx hby hml hown hret hlk hZ hw p0 h0  A0
    ·
      refine own_go (fun t k => XS.icmpNo A0.here hx rfl (hb hby d2_9) rfl (flt hc2).2.2.1 k) ?_
      show own_Go _ _ _ _ (T0.setTop (mkF m 12 #[.val (.int p0)] []))
      refine own_go (fun t k => XS.iconst A0.here hx rfl (hb hby d2_12) k) ?_
      show own_Go _ _ _ _ (T0.setTop (mkF m 13 #[.val (.int p0)] [(.int (1 : Int32))]))
      refine own_retN A0 hx (t := .boolean) hret (by simp) hlk (by decide) (by decide) (hb hby d2_13) ?_
      exact ⟨congrArg (fun z => some (Value.int z)) (by simp only [f2, if_neg hc1, if_neg hc2] <;> rfl), rfl⟩
theorem ef_0 (m : MethodId) (p0 : Int32) (p1 : Int32) : entryFrame m #[(.int p0), (.int p1)] maxLocals = mkF m 0 #[.val (.int p0), .val (.int p1), .unset, .unset, .unset, .unset] [] := by first | (simp [entryFrame, mkF, argsToLocals, Value.category, maxLocals]; done) | rfl
theorem pd__I_Z : parseMethodDescriptor "(I)Z" = some ⟨[.int], some .boolean⟩ := by decide +kernel
def f0 (p0 : Int32) (p1 : Int32) (cl : Cell) : Int32 := (nar .boolean (if (if (f1 p0 cl) = (f2 p0) then (1 : Int32) else (0 : Int32)) = (0 : Int32) then (0 : Int32) else (if (if (f1 (p1 &&& (255 : Int32)) cl) = (f2 (p1 &&& (255 : Int32))) then (1 : Int32) else (0 : Int32)) = (0 : Int32) then (0 : Int32) else (1 : Int32))))
set_option maxRecDepth 65536 in
set_option maxHeartbeats 40000000 in
theorem rm0 (l : Launch) (Z : State) (a0 : Array Value) (hw : ∀ d ∈ tables_1, d.before a0 Z = true) (p0 : Int32) (p1 : Int32) (s_X : Addr) (w_arr : Addr) (cl : Cell) (h0 : Heap) (n0 : Nat) (S_X : Sta Z h0 "com/example/rublewire/rublewire/fin/CharacterSet" "X" "Lcom/example/rublewire/rublewire/fin/CharacterSet;" (.ref s_X)) (TB : Tab Z h0 w_arr cl .boolean 128) (E_X : Exa Z h0 s_X "com/example/rublewire/rublewire/fin/CharacterSet") (F_holds : Fld Z h0 s_X "com/example/rublewire/rublewire/fin/CharacterSet" "holds" "[Z" (.ref w_arr)) :
    own_Met l Z n0 x code maxLocals ret room_1 #[(.int p0), (.int p1)] h0 (fun v h => v = some (.int (f0 p0 p1 cl)) ∧ h0 = h) := by
  refine own_met (plainFor_of_name pn_2) ?_
  intro p e s m below meth c T0 hx hby hml hown hnm hret hlk hZ A0
  have hret : meth.sig.returnType = some .boolean := hret
  rw [ef_0]
  show own_Go _ _ _ _ (T0.setTop (mkF m 0 #[.val (.int p0), .val (.int p1), .unset, .unset, .unset, .unset] []))
  refine own_go (fun t k => XS.iloadN A0.here hx rfl (hb hby at_0) rfl k) ?_
  show own_Go _ _ _ _ (T0.setTop (mkF m 1 #[.val (.int p0), .val (.int p1), .unset, .unset, .unset, .unset] [(.int p1)]))
  refine own_go (fun t k => XS.sipush A0.here hx rfl (hb hby at_1) k) ?_
  show own_Go _ _ _ _ (T0.setTop (mkF m 4 #[.val (.int p0), .val (.int p1), .unset, .unset, .unset, .unset] [(.int (255 : Int32)), (.int p1)]))
  refine own_go (fun t k => XS.iand A0.here hx rfl (hb hby at_4) rfl k) ?_
  show own_Go _ _ _ _ (T0.setTop (mkF m 5 #[.val (.int p0), .val (.int p1), .unset, .unset, .unset, .unset] [(.int (p1 &&& (255 : Int32)))]))
  refine own_go (fun t k => XS.istoreN A0.here hx rfl (hb hby at_5) rfl (l' := #[.val (.int p0), .val (.int p1), .val (.int (p1 &&& (255 : Int32))), .unset, .unset, .unset]) rfl k) ?_
  show own_Go _ _ _ _ (T0.setTop (mkF m 6 #[.val (.int p0), .val (.int p1), .val (.int (p1 &&& (255 : Int32))), .unset, .unset, .unset] []))
  refine own_getS A0 hx hZ hown (host := "") (Or.inl (hw _ (List.mem_of_getElem? (i := 0) rfl))) Via.refl S_X rfl (hb hby at_6) (fun T1 A2 => ?_)
  show own_Go _ _ _ _ (T1.setTop (mkF m 9 #[.val (.int p0), .val (.int p1), .val (.int (p1 &&& (255 : Int32))), .unset, .unset, .unset] [(.ref s_X)]))
  refine own_go (fun t k => XS.astoreN A2.here hx rfl (hb hby at_9) rfl rfl (l' := #[.val (.int p0), .val (.int p1), .val (.int (p1 &&& (255 : Int32))), .val (.ref s_X), .unset, .unset]) rfl k) ?_
  show own_Go _ _ _ _ (T1.setTop (mkF m 10 #[.val (.int p0), .val (.int p1), .val (.int (p1 &&& (255 : Int32))), .val (.ref s_X), .unset, .unset] []))
  refine own_go (fun t k => XS.aloadN A2.here hx rfl (hb hby at_10) rfl rfl k) ?_
  show own_Go _ _ _ _ (T1.setTop (mkF m 11 #[.val (.int p0), .val (.int p1), .val (.int (p1 &&& (255 : Int32))), .val (.ref s_X), .unset, .unset] [(.ref s_X)]))
  refine own_go (fun t k => XS.iloadN A2.here hx rfl (hb hby at_11) rfl k) ?_
  show own_Go _ _ _ _ (T1.setTop (mkF m 12 #[.val (.int p0), .val (.int p1), .val (.int (p1 &&& (255 : Int32))), .val (.ref s_X), .unset, .unset] [(.int p0), (.ref s_X)]))
  refine own_callV A2 hx hZ (y := (⟨"com/example/rublewire/rublewire/fin/CharacterSet", "contains", "(I)Z"⟩ : MethodName)) (z := (⟨"com/example/rublewire/rublewire/fin/CharacterSet", "contains", "(I)Z"⟩ : MethodName)) hown (hw _ (List.mem_of_getElem? (i := 3) rfl)) (hw _ (List.mem_of_getElem? (i := 4) rfl)) (hw _ (List.mem_of_getElem? (i := 6) rfl)) (hw _ (List.mem_of_getElem? (i := 5) rfl)) (hw _ (List.mem_of_getElem? (i := 1) rfl)) (hw _ (List.mem_of_getElem? (i := 7) rfl)) (notFace_of_selects (args := #[]) (mvT hZ (hw _ (List.mem_of_getElem? (i := 6) rfl)))) (by decide) (b := s_X) (argsL := [(.int p0)]) (rest := []) E_X (rm1 l Z a0 hw s_X p0 w_arr cl h0 n0 F_holds TB) 0 (by decide) (by decide) rfl (by rw [hml]; rfl) (lenOf pd__I_Z rfl) rfl (by show 2 * 0 + _ ≤ _; exact Nat.le_of_eq rfl) (hb hby at_12) (by decide) (by decide) (fun v6 T3 h5 A4 hQ7 => ?_)
  obtain ⟨rfl, rfl⟩ := hQ7
  show own_Go _ _ _ _ (T3.setTop (mkF m 15 #[.val (.int p0), .val (.int p1), .val (.int (p1 &&& (255 : Int32))), .val (.ref s_X), .unset, .unset] [(.int (f1 p0 cl))]))
  refine own_go (fun t k => XS.iloadN A4.here hx rfl (hb hby at_15) rfl k) ?_
  show own_Go _ _ _ _ (T3.setTop (mkF m 16 #[.val (.int p0), .val (.int p1), .val (.int (p1 &&& (255 : Int32))), .val (.ref s_X), .unset, .unset] [(.int p0), (.int (f1 p0 cl))]))
  refine own_callS A4 hx hZ hown (y := (⟨"com/example/rublewire/rublewire/fin/CharacterSetContainsPinLaw", "ref", "(I)Z"⟩ : MethodName)) (hw _ (List.mem_of_getElem? (i := 10) rfl)) (hw _ (List.mem_of_getElem? (i := 11) rfl)) (hw _ (List.mem_of_getElem? (i := 12) rfl)) (hw _ (List.mem_of_getElem? (i := 13) rfl)) (by decide) (argsL := [(.int p0)]) (rest := [(.int (f1 p0 cl))]) (rm2 l Z a0 hw p0 h0 n0 ) 1 (by decide) (by decide) rfl (by rw [hml]; rfl) (lenOf pd__I_Z rfl) rfl (by show 2 * 0 + _ ≤ _; exact Nat.le_of_eq rfl) (hb hby at_16) (by decide) (by decide) (fun v11 T8 h10 A9 hQ12 => ?_)
  obtain ⟨rfl, rfl⟩ := hQ12
  show own_Go _ _ _ _ (T8.setTop (mkF m 19 #[.val (.int p0), .val (.int p1), .val (.int (p1 &&& (255 : Int32))), .val (.ref s_X), .unset, .unset] [(.int (f2 p0)), (.int (f1 p0 cl))]))
  have mg13 : ∀ t, Steps p.tables e below (T8.setTop (mkF m 27 #[.val (.int p0), .val (.int p1), .val (.int (p1 &&& (255 : Int32))), .val (.ref s_X), .unset, .unset] [(.int (if (f1 p0 cl) = (f2 p0) then (1 : Int32) else (0 : Int32)))])) t → Steps p.tables e below (T8.setTop (mkF m 19 #[.val (.int p0), .val (.int p1), .val (.int (p1 &&& (255 : Int32))), .val (.ref s_X), .unset, .unset] [(.int (f2 p0)), (.int (f1 p0 cl))])) t := by
    intro t k
    by_cases hm19_0 : (f1 p0 cl) = (f2 p0)
    ·
      simp only [if_pos hm19_0] at k
      exact (XS.icmpNo A9.here hx rfl (hb hby at_19) rfl (teq hm19_0).2 (XS.iconst A9.here hx rfl (hb hby at_22) (XS.goto A9.here hx rfl (pc0 := 23) (pc' := 27) rfl (hb hby at_23) (by decide) (by decide) k)))
    ·
      simp only [if_neg hm19_0] at k
      exact (XS.icmpYes A9.here hx rfl (pc0 := 19) (pc' := 26) rfl (hb hby at_19) rfl (feq hm19_0).2 (by decide) (by decide) (XS.iconst A9.here hx rfl (hb hby at_26) k))
  refine own_go mg13 ?_
  show own_Go _ _ _ _ (T8.setTop (mkF m 27 #[.val (.int p0), .val (.int p1), .val (.int (p1 &&& (255 : Int32))), .val (.ref s_X), .unset, .unset] [(.int (if (f1 p0 cl) = (f2 p0) then (1 : Int32) else (0 : Int32)))]))
  refine own_go (fun t k => XS.istore A9.here hx rfl (hb hby at_27) rfl (l' := #[.val (.int p0), .val (.int p1), .val (.int (p1 &&& (255 : Int32))), .val (.ref s_X), .val (.int (if (f1 p0 cl) = (f2 p0) then (1 : Int32) else (0 : Int32))), .unset]) rfl k) ?_
  show own_Go _ _ _ _ (T8.setTop (mkF m 29 #[.val (.int p0), .val (.int p1), .val (.int (p1 &&& (255 : Int32))), .val (.ref s_X), .val (.int (if (f1 p0 cl) = (f2 p0) then (1 : Int32) else (0 : Int32))), .unset] []))
  refine own_go (fun t k => XS.aloadN A9.here hx rfl (hb hby at_29) rfl rfl k) ?_
  show own_Go _ _ _ _ (T8.setTop (mkF m 30 #[.val (.int p0), .val (.int p1), .val (.int (p1 &&& (255 : Int32))), .val (.ref s_X), .val (.int (if (f1 p0 cl) = (f2 p0) then (1 : Int32) else (0 : Int32))), .unset] [(.ref s_X)]))
  refine own_go (fun t k => XS.iloadN A9.here hx rfl (hb hby at_30) rfl k) ?_
  show own_Go _ _ _ _ (T8.setTop (mkF m 31 #[.val (.int p0), .val (.int p1), .val (.int (p1 &&& (255 : Int32))), .val (.ref s_X), .val (.int (if (f1 p0 cl) = (f2 p0) then (1 : Int32) else (0 : Int32))), .unset] [(.int (p1 &&& (255 : Int32))), (.ref s_X)]))
  refine own_callV A9 hx hZ (y := (⟨"com/example/rublewire/rublewire/fin/CharacterSet", "contains", "(I)Z"⟩ : MethodName)) (z := (⟨"com/example/rublewire/rublewire/fin/CharacterSet", "contains", "(I)Z"⟩ : MethodName)) hown (hw _ (List.mem_of_getElem? (i := 3) rfl)) (hw _ (List.mem_of_getElem? (i := 4) rfl)) (hw _ (List.mem_of_getElem? (i := 6) rfl)) (hw _ (List.mem_of_getElem? (i := 5) rfl)) (hw _ (List.mem_of_getElem? (i := 1) rfl)) (hw _ (List.mem_of_getElem? (i := 7) rfl)) (notFace_of_selects (args := #[]) (mvT hZ (hw _ (List.mem_of_getElem? (i := 6) rfl)))) (by decide) (b := s_X) (argsL := [(.int (p1 &&& (255 : Int32)))]) (rest := []) E_X (rm1 l Z a0 hw s_X (p1 &&& (255 : Int32)) w_arr cl h0 n0 F_holds TB) 0 (by decide) (by decide) rfl (by rw [hml]; rfl) (lenOf pd__I_Z rfl) rfl (by show 2 * 0 + _ ≤ _; exact Nat.le_of_eq rfl) (hb hby at_31) (by decide) (by decide) (fun v17 T14 h16 A15 hQ18 => ?_)
  obtain ⟨rfl, rfl⟩ := hQ18
  show own_Go _ _ _ _ (T14.setTop (mkF m 34 #[.val (.int p0), .val (.int p1), .val (.int (p1 &&& (255 : Int32))), .val (.ref s_X), .val (.int (if (f1 p0 cl) = (f2 p0) then (1 : Int32) else (0 : Int32))), .unset] [(.int (f1 (p1 &&& (255 : Int32)) cl))]))
  refine own_go (fun t k => XS.iloadN A15.here hx rfl (hb hby at_34) rfl k) ?_
  show own_Go _ _ _ _ (T14.setTop (mkF m 35 #[.val (.int p0), .val (.int p1), .val (.int (p1 &&& (255 : Int32))), .val (.ref s_X), .val (.int (if (f1 p0 cl) = (f2 p0) then (1 : Int32) else (0 : Int32))), .unset] [(.int (p1 &&& (255 : Int32))), (.int (f1 (p1 &&& (255 : Int32)) cl))]))
  refine own_callS A15 hx hZ hown (y := (⟨"com/example/rublewire/rublewire/fin/CharacterSetContainsPinLaw", "ref", "(I)Z"⟩ : MethodName)) (hw _ (List.mem_of_getElem? (i := 10) rfl)) (hw _ (List.mem_of_getElem? (i := 11) rfl)) (hw _ (List.mem_of_getElem? (i := 12) rfl)) (hw _ (List.mem_of_getElem? (i := 13) rfl)) (by decide) (argsL := [(.int (p1 &&& (255 : Int32)))]) (rest := [(.int (f1 (p1 &&& (255 : Int32)) cl))]) (rm2 l Z a0 hw (p1 &&& (255 : Int32)) h0 n0 ) 1 (by decide) (by decide) rfl (by rw [hml]; rfl) (lenOf pd__I_Z rfl) rfl (by show 2 * 0 + _ ≤ _; exact Nat.le_of_eq rfl) (hb hby at_35) (by decide) (by decide) (fun v22 T19 h21 A20 hQ23 => ?_)
  obtain ⟨rfl, rfl⟩ := hQ23
  show own_Go _ _ _ _ (T19.setTop (mkF m 38 #[.val (.int p0), .val (.int p1), .val (.int (p1 &&& (255 : Int32))), .val (.ref s_X), .val (.int (if (f1 p0 cl) = (f2 p0) then (1 : Int32) else (0 : Int32))), .unset] [(.int (f2 (p1 &&& (255 : Int32)))), (.int (f1 (p1 &&& (255 : Int32)) cl))]))
  have mg24 : ∀ t, Steps p.tables e below (T19.setTop (mkF m 46 #[.val (.int p0), .val (.int p1), .val (.int (p1 &&& (255 : Int32))), .val (.ref s_X), .val (.int (if (f1 p0 cl) = (f2 p0) then (1 : Int32) else (0 : Int32))), .unset] [(.int (if (f1 (p1 &&& (255 : Int32)) cl) = (f2 (p1 &&& (255 : Int32))) then (1 : Int32) else (0 : Int32)))])) t → Steps p.tables e below (T19.setTop (mkF m 38 #[.val (.int p0), .val (.int p1), .val (.int (p1 &&& (255 : Int32))), .val (.ref s_X), .val (.int (if (f1 p0 cl) = (f2 p0) then (1 : Int32) else (0 : Int32))), .unset] [(.int (f2 (p1 &&& (255 : Int32)))), (.int (f1 (p1 &&& (255 : Int32)) cl))])) t := by
    intro t k
    by_cases hm38_0 : (f1 (p1 &&& (255 : Int32)) cl) = (f2 (p1 &&& (255 : Int32)))
    ·
      simp only [if_pos hm38_0] at k
      exact (XS.icmpNo A20.here hx rfl (hb hby at_38) rfl (teq hm38_0).2 (XS.iconst A20.here hx rfl (hb hby at_41) (XS.goto A20.here hx rfl (pc0 := 42) (pc' := 46) rfl (hb hby at_42) (by decide) (by decide) k)))
    ·
      simp only [if_neg hm38_0] at k
      exact (XS.icmpYes A20.here hx rfl (pc0 := 38) (pc' := 45) rfl (hb hby at_38) rfl (feq hm38_0).2 (by decide) (by decide) (XS.iconst A20.here hx rfl (hb hby at_45) k))
  refine own_go mg24 ?_
  show own_Go _ _ _ _ (T19.setTop (mkF m 46 #[.val (.int p0), .val (.int p1), .val (.int (p1 &&& (255 : Int32))), .val (.ref s_X), .val (.int (if (f1 p0 cl) = (f2 p0) then (1 : Int32) else (0 : Int32))), .unset] [(.int (if (f1 (p1 &&& (255 : Int32)) cl) = (f2 (p1 &&& (255 : Int32))) then (1 : Int32) else (0 : Int32)))]))
  refine own_go (fun t k => XS.istore A20.here hx rfl (hb hby at_46) rfl (l' := #[.val (.int p0), .val (.int p1), .val (.int (p1 &&& (255 : Int32))), .val (.ref s_X), .val (.int (if (f1 p0 cl) = (f2 p0) then (1 : Int32) else (0 : Int32))), .val (.int (if (f1 (p1 &&& (255 : Int32)) cl) = (f2 (p1 &&& (255 : Int32))) then (1 : Int32) else (0 : Int32)))]) rfl k) ?_
  show own_Go _ _ _ _ (T19.setTop (mkF m 48 #[.val (.int p0), .val (.int p1), .val (.int (p1 &&& (255 : Int32))), .val (.ref s_X), .val (.int (if (f1 p0 cl) = (f2 p0) then (1 : Int32) else (0 : Int32))), .val (.int (if (f1 (p1 &&& (255 : Int32)) cl) = (f2 (p1 &&& (255 : Int32))) then (1 : Int32) else (0 : Int32)))] []))
  refine own_go (fun t k => XS.iload A20.here hx rfl (hb hby at_48) rfl k) ?_
  show own_Go _ _ _ _ (T19.setTop (mkF m 50 #[.val (.int p0), .val (.int p1), .val (.int (p1 &&& (255 : Int32))), .val (.ref s_X), .val (.int (if (f1 p0 cl) = (f2 p0) then (1 : Int32) else (0 : Int32))), .val (.int (if (f1 (p1 &&& (255 : Int32)) cl) = (f2 (p1 &&& (255 : Int32))) then (1 : Int32) else (0 : Int32)))] [(.int (if (f1 p0 cl) = (f2 p0) then (1 : Int32) else (0 : Int32)))]))
  have mg25 : ∀ t, Steps p.tables e below (T19.setTop (mkF m 63 #[.val (.int p0), .val (.int p1), .val (.int (p1 &&& (255 : Int32))), .val (.ref s_X), .val (.int (if (f1 p0 cl) = (f2 p0) then (1 : Int32) else (0 : Int32))), .val (.int (if (f1 (p1 &&& (255 : Int32)) cl) = (f2 (p1 &&& (255 : Int32))) then (1 : Int32) else (0 : Int32)))] [(.int (if (if (f1 p0 cl) = (f2 p0) then (1 : Int32) else (0 : Int32)) = (0 : Int32) then (0 : Int32) else (if (if (f1 (p1 &&& (255 : Int32)) cl) = (f2 (p1 &&& (255 : Int32))) then (1 : Int32) else (0 : Int32)) = (0 : Int32) then (0 : Int32) else (1 : Int32))))])) t → Steps p.tables e below (T19.setTop (mkF m 50 #[.val (.int p0), .val (.int p1), .val (.int (p1 &&& (255 : Int32))), .val (.ref s_X), .val (.int (if (f1 p0 cl) = (f2 p0) then (1 : Int32) else (0 : Int32))), .val (.int (if (f1 (p1 &&& (255 : Int32)) cl) = (f2 (p1 &&& (255 : Int32))) then (1 : Int32) else (0 : Int32)))] [(.int (if (f1 p0 cl) = (f2 p0) then (1 : Int32) else (0 : Int32)))])) t := by
    intro t k
    by_cases hm50_0 : (if (f1 p0 cl) = (f2 p0) then (1 : Int32) else (0 : Int32)) = (0 : Int32)
    ·
      simp only [if_pos hm50_0] at k
      exact (XS.ifYes A20.here hx rfl (pc0 := 50) (pc' := 62) rfl (hb hby at_50) rfl ((if0 _ _).trans (teq hm50_0).1) (by decide) (by decide) (XS.iconst A20.here hx rfl (hb hby at_62) k))
    ·
      refine XS.ifNo A20.here hx rfl (hb hby at_50) rfl ((if0 _ _).trans (feq hm50_0).1) (XS.iload A20.here hx rfl (hb hby at_53) rfl ?_)
      by_cases hm55_1 : (if (f1 (p1 &&& (255 : Int32)) cl) = (f2 (p1 &&& (255 : Int32))) then (1 : Int32) else (0 : Int32)) = (0 : Int32)
      ·
        simp only [if_neg hm50_0, if_pos hm55_1] at k
        exact (XS.ifYes A20.here hx rfl (pc0 := 55) (pc' := 62) rfl (hb hby at_55) rfl ((if0 _ _).trans (teq hm55_1).1) (by decide) (by decide) (XS.iconst A20.here hx rfl (hb hby at_62) k))
      ·
        simp only [if_neg hm50_0, if_neg hm55_1] at k
        exact (XS.ifNo A20.here hx rfl (hb hby at_55) rfl ((if0 _ _).trans (feq hm55_1).1) (XS.iconst A20.here hx rfl (hb hby at_58) (XS.goto A20.here hx rfl (pc0 := 59) (pc' := 63) rfl (hb hby at_59) (by decide) (by decide) k)))
  refine own_go mg25 ?_
  show own_Go _ _ _ _ (T19.setTop (mkF m 63 #[.val (.int p0), .val (.int p1), .val (.int (p1 &&& (255 : Int32))), .val (.ref s_X), .val (.int (if (f1 p0 cl) = (f2 p0) then (1 : Int32) else (0 : Int32))), .val (.int (if (f1 (p1 &&& (255 : Int32)) cl) = (f2 (p1 &&& (255 : Int32))) then (1 : Int32) else (0 : Int32)))] [(.int (if (if (f1 p0 cl) = (f2 p0) then (1 : Int32) else (0 : Int32)) = (0 : Int32) then (0 : Int32) else (if (if (f1 (p1 &&& (255 : Int32)) cl) = (f2 (p1 &&& (255 : Int32))) then (1 : Int32) else (0 : Int32)) = (0 : Int32) then (0 : Int32) else (1 : Int32))))]))
  refine own_retN A20 hx (t := .boolean) hret (by simp) hlk (by decide) (by decide) (hb hby at_63) ?_
  exact ⟨rfl, rfl⟩
/-- what the case says of the table's place j -/
def own_HX (cl : Cell) : Prop := ∀ j : Int32, ¬ j < 0 → j < 128 → ((j.toInt < 32 → (atv cl j).toInt = 0) ∧ (j.toInt = 32 → (atv cl j).toInt = 1) ∧ (33 ≤ j.toInt → j.toInt < 39 → (atv cl j).toInt = 0) ∧ (j.toInt = 39 → (atv cl j).toInt = 1) ∧ (j.toInt = 40 → (atv cl j).toInt = 1) ∧ (j.toInt = 41 → (atv cl j).toInt = 1) ∧ (j.toInt = 42 → (atv cl j).toInt = 0) ∧ (43 ≤ j.toInt → j.toInt < 59 → (atv cl j).toInt = 1) ∧ (59 ≤ j.toInt → j.toInt < 63 → (atv cl j).toInt = 0) ∧ (j.toInt = 63 → (atv cl j).toInt = 1) ∧ (j.toInt = 64 → (atv cl j).toInt = 0) ∧ (65 ≤ j.toInt → j.toInt < 91 → (atv cl j).toInt = 1) ∧ (91 ≤ j.toInt → j.toInt < 97 → (atv cl j).toInt = 0) ∧ (97 ≤ j.toInt → j.toInt < 123 → (atv cl j).toInt = 1) ∧ (123 ≤ j.toInt → (atv cl j).toInt = 0))
theorem own_ltI (x y : Int32) (v w : Int) (h1 : x.toInt = v) (h2 : y.toInt = w) : (x < y) = (v < w) := by rw [Int32.lt_iff_toInt_lt, h1, h2]
theorem own_eqI (x y : Int32) (v w : Int) (h1 : x.toInt = v) (h2 : y.toInt = w) : (x = y) = (v = w) := by rw [← Int32.toInt_inj, h1, h2]
theorem own_f2val (p : Int32) (v : Int) (hv : p.toInt = v) : f2 p = (if (65 ≤ v ∧ v ≤ 90) ∨ (97 ≤ v ∧ v ≤ 122) ∨ (48 ≤ v ∧ v ≤ 57) ∨ v = 32 ∨ v = 47 ∨ v = 45 ∨ v = 63 ∨ v = 58 ∨ v = 40 ∨ v = 41 ∨ v = 46 ∨ v = 44 ∨ v = 39 ∨ v = 43 then 1 else 0) := by
  have e42 : f2_42 p = (if v = 32 ∨ v = 47 ∨ v = 45 ∨ v = 63 ∨ v = 58 ∨ v = 40 ∨ v = 41 ∨ v = 46 ∨ v = 44 ∨ v = 39 ∨ v = 43 then 1 else 0) := by
    unfold f2_42
    simp only [own_eqI p 32 v 32 hv rfl, own_eqI p 47 v 47 hv rfl, own_eqI p 45 v 45 hv rfl, own_eqI p 63 v 63 hv rfl, own_eqI p 58 v 58 hv rfl, own_eqI p 40 v 40 hv rfl, own_eqI p 41 v 41 hv rfl, own_eqI p 46 v 46 hv rfl, own_eqI p 44 v 44 hv rfl, own_eqI p 39 v 39 hv rfl, own_eqI p 43 v 43 hv rfl]
    repeat' split
    all_goals first | rfl | (exfalso; omega)
  unfold f2 f2_14 f2_28
  rw [e42]
  simp only [own_ltI p 65 v 65 hv rfl, own_ltI 90 p 90 v rfl hv, own_ltI p 97 v 97 hv rfl, own_ltI 122 p 122 v rfl hv, own_ltI p 48 v 48 hv rfl, own_ltI 57 p 57 v rfl hv]
  repeat' split
  all_goals first | rfl | (exfalso; omega)
theorem own_one (p : Int32) (cl : Cell) (HX : own_HX cl) : f1 p cl = f2 p := by
  generalize hv : p.toInt = v
  rw [own_f2val p v hv]
  unfold f1
  simp only [own_ltI p 0 v 0 hv rfl, own_ltI p 128 v 128 hv rfl]
  by_cases h0 : v < 0
  · rw [if_pos h0, if_neg (by omega)]
  · rw [if_neg h0]
    by_cases h1 : v < 128
    · rw [if_pos h1]
      have q := HX p (by rw [own_ltI p 0 v 0 hv rfl]; exact h0) (by rw [own_ltI p 128 v 128 hv rfl]; exact h1)
      rw [hv] at q
      simp only [own_eqI (atv cl p) 0 (atv cl p).toInt 0 rfl rfl]
      generalize (atv cl p).toInt = u at *
      obtain ⟨q1, q2, q3, q4, q5, q6, q7, q8, q9, q10, q11, q12, q13, q14, q15⟩ := q
      split <;> split
      all_goals first | rfl | (exfalso; omega)
    · rw [if_neg h1, if_neg (by omega)]
theorem law_true (i0 i1 : Int32) (s_X w_arr : Addr) (cl : Cell) (HX : own_HX cl) : f0 i0 i1 cl = 1 := by
  unfold f0
  rw [own_one _ _ HX, own_one _ _ HX, if_pos rfl, if_pos rfl]
  rfl
set_option maxRecDepth 65536 in
set_option maxHeartbeats 40000000 in
theorem comes_1 {Post : Tables → Env → Array Value → State → Outcome → State → Prop} (hpost : ∀ tb e args s v u, (limb_1_1.after args s (.returned v) u = true ∧ limb_1_2.after args s (.returned v) u = true ∧ True) → FrameEnd s (.returned v) u (Jvm.fieldLocs frame_1_writes args s ++ Jvm.arrayLocs frame_1_arrays args s ++ Jvm.staticLocs frame_1_statics s) 0 0 → Post tb e args s (.returned v) u) :
    ArmFor flags0 classFile x code maxLocals ret World_1 tables_1 room_1 Calls_1 rest_1 Pre_1 Post := by
  intro l hfl _ _ p e ha hc hk s m args below hf hA hF happ hP
  obtain ⟨hcalls, hrest, hpre⟩ := hP
  obtain ⟨-, -, -, hnamed, -, -, -, hat⟩ := (Spec.applies_iff hf).mp happ
  obtain ⟨hg, hn⟩ := and_e (Cond.before_iff.mp (show (Jvm.Cond.and given_1 narrow_1).before args s = true from hpre))
  obtain ⟨gc, gr⟩ := and_e hg
  obtain ⟨w0, w1, rfl⟩ : ∃ w0 w1 : Value, args = #[w0, w1] := by
    have hs : args.size = 2 := by simpa [Cond.value, given_1] using gc
    obtain ⟨L⟩ := args
    match L, hs with
    | [w0, w1], _ => exact ⟨w0, w1, rfl⟩
  have hw := fun d (hd : d ∈ tables_1) => atoms_spec (ws := Jvm.Cond.code x code maxLocals ret :: tables_1) hat d (List.mem_cons_of_mem _ hd)
  have hfit : Fit s := fun {y c} hc i hi => by
    obtain ⟨ha, rfl⟩ := Array.getElem?_eq_some_iff.mp hc
    have q := List.all_eq_true.mp ((Array.all_eq_true_iff_forall_mem.mp hF) _ (Array.getElem_mem ha)) i (List.mem_range.mpr hi)
    simpa [Array.getElem?_eq_getElem hi] using q
  obtain ⟨q0, gr0⟩ := and_e gr
  obtain ⟨i0, ei0⟩ := is_v q0
  obtain rfl : w0 = (.int i0) := Option.some.inj ei0
  obtain ⟨i1, ei1⟩ := is_v gr0
  obtain rfl : w1 = (.int i1) := Option.some.inj ei1
  obtain ⟨n0, m0⟩ := and_e hn
  obtain ⟨n1, m1⟩ := and_e m0
  obtain ⟨n2, m2⟩ := and_e m1
  obtain ⟨n3, m3⟩ := and_e m2
  obtain ⟨n4, m4⟩ := and_e m3
  obtain ⟨n5, m5⟩ := and_e m4
  obtain ⟨n6, m6⟩ := and_e m5
  obtain ⟨n7, m7⟩ := and_e m6
  obtain ⟨n8, m8⟩ := and_e m7
  obtain ⟨n9, m9⟩ := and_e m8
  obtain ⟨n10, m10⟩ := and_e m9
  obtain ⟨n11, m11⟩ := and_e m10
  obtain ⟨n12, m12⟩ := and_e m11
  obtain ⟨n13, m13⟩ := and_e m12
  obtain ⟨n14, m14⟩ := and_e m13
  obtain ⟨n15, m15⟩ := and_e m14
  obtain ⟨n16, m16⟩ := and_e m15
  have n17 := m16
  obtain ⟨s_X, S_X, E_X, ev_X⟩ := own_sta n0 (hw _ (List.mem_of_getElem? (i := 1) rfl)) (hw _ (List.mem_of_getElem? (i := 2) rfl))
  obtain ⟨w_arr, evF⟩ := arr_v n1
  have F_holds : Fld s s.heap s_X "com/example/rublewire/rublewire/fin/CharacterSet" "holds" "[Z" (.ref w_arr) := Fld.start ((fld_at ev_X).symm.trans evF)
  obtain ⟨cl, AR⟩ := Arr.start evF n1
  have hat : s.arrayAt? w_arr = some cl := AR.fin (State.Warmed39.refl s).alike
  have hln := own_lenI n2 evF hat
  have TB : Tab s s.heap w_arr cl .boolean 128 := Tab.start hfit AR (Or.inr (Or.inl rfl)) hln.1 hln.2 (by decide)
  have evI : ∀ idx, (Jvm.Term.field (Jvm.Term.static "com/example/rublewire/rublewire/fin/CharacterSet" "X" "Lcom/example/rublewire/rublewire/fin/CharacterSet;") "com/example/rublewire/rublewire/fin/CharacterSet" "holds" "[Z").eval #[.int i0, .int i1] s none idx s = some (.ref w_arr) := fun idx => evF
  have a3 := own_allL hat evI TB n3
  have a4 := own_elt evI AR.1 n4
  have a5 := own_allR hat evI TB n5
  have a6 := own_elt evI AR.1 n6
  have a7 := own_elt evI AR.1 n7
  have a8 := own_elt evI AR.1 n8
  have a9 := own_elt evI AR.1 n9
  have a10 := own_allR hat evI TB n10
  have a11 := own_allR hat evI TB n11
  have a12 := own_elt evI AR.1 n12
  have a13 := own_elt evI AR.1 n13
  have a14 := own_allR hat evI TB n14
  have a15 := own_allR hat evI TB n15
  have a16 := own_allR hat evI TB n16
  have a17 := own_allG hat evI TB n17
  have HX : own_HX cl := by
    intro j h0 h1
    refine ⟨?_, ?_, ?_, ?_, ?_, ?_, ?_, ?_, ?_, ?_, ?_, ?_, ?_, ?_, ?_⟩
    · intro q; rcases a3 j h0 h1 with g | g; (exfalso; rw [Int32.le_iff_toInt_le] at g; have e : (32 : Int32).toInt = 32 := rfl; omega); (rw [g]; rfl)
    · intro q; obtain rfl : j = 32 := Int32.toInt_inj.mp q; rw [a4]; rfl
    · intro q q'; rcases a5 j h0 h1 with g | g | g; (exfalso; rw [Int32.lt_iff_toInt_lt] at g; have e : (33 : Int32).toInt = 33 := rfl; omega); (exfalso; rw [Int32.lt_iff_toInt_lt] at g; have e : (39 : Int32).toInt = 39 := rfl; omega); (rw [g]; rfl)
    · intro q; obtain rfl : j = 39 := Int32.toInt_inj.mp q; rw [a6]; rfl
    · intro q; obtain rfl : j = 40 := Int32.toInt_inj.mp q; rw [a7]; rfl
    · intro q; obtain rfl : j = 41 := Int32.toInt_inj.mp q; rw [a8]; rfl
    · intro q; obtain rfl : j = 42 := Int32.toInt_inj.mp q; rw [a9]; rfl
    · intro q q'; rcases a10 j h0 h1 with g | g | g; (exfalso; rw [Int32.lt_iff_toInt_lt] at g; have e : (43 : Int32).toInt = 43 := rfl; omega); (exfalso; rw [Int32.lt_iff_toInt_lt] at g; have e : (59 : Int32).toInt = 59 := rfl; omega); (rw [g]; rfl)
    · intro q q'; rcases a11 j h0 h1 with g | g | g; (exfalso; rw [Int32.lt_iff_toInt_lt] at g; have e : (59 : Int32).toInt = 59 := rfl; omega); (exfalso; rw [Int32.lt_iff_toInt_lt] at g; have e : (63 : Int32).toInt = 63 := rfl; omega); (rw [g]; rfl)
    · intro q; obtain rfl : j = 63 := Int32.toInt_inj.mp q; rw [a12]; rfl
    · intro q; obtain rfl : j = 64 := Int32.toInt_inj.mp q; rw [a13]; rfl
    · intro q q'; rcases a14 j h0 h1 with g | g | g; (exfalso; rw [Int32.lt_iff_toInt_lt] at g; have e : (65 : Int32).toInt = 65 := rfl; omega); (exfalso; rw [Int32.lt_iff_toInt_lt] at g; have e : (91 : Int32).toInt = 91 := rfl; omega); (rw [g]; rfl)
    · intro q q'; rcases a15 j h0 h1 with g | g | g; (exfalso; rw [Int32.lt_iff_toInt_lt] at g; have e : (91 : Int32).toInt = 91 := rfl; omega); (exfalso; rw [Int32.lt_iff_toInt_lt] at g; have e : (97 : Int32).toInt = 97 := rfl; omega); (rw [g]; rfl)
    · intro q q'; rcases a16 j h0 h1 with g | g | g; (exfalso; rw [Int32.lt_iff_toInt_lt] at g; have e : (97 : Int32).toInt = 97 := rfl; omega); (exfalso; rw [Int32.lt_iff_toInt_lt] at g; have e : (123 : Int32).toInt = 123 := rfl; omega); (rw [g]; rfl)
    · intro q; rcases a17 j h0 h1 with g | g; (exfalso; rw [Int32.lt_iff_toInt_lt] at g; have e : (123 : Int32).toInt = 123 := rfl; omega); (rw [g]; rfl)
  obtain ⟨n, o, h1, h2, h3, _, L, rfl, ⟨⟨rfl, hQ⟩, N⟩, hq⟩ := rm0 l s _ hw i0 i1 s_X w_arr cl s.heap s.heap.size S_X TB E_X F_holds tables_1 p e ha hc hk s m _ below hf ((Spec.applies_iff_loose hf).mp happ).1 ⟨rfl, State.Warmed39.refl s, rfl⟩ trivial
  refine ⟨n, _, h1, h2, h3, hpost _ _ _ _ _ _ ⟨Cond.after_iff.mpr rfl, Cond.after_iff.mpr (eq_i res_at (Term.int_eval (1)) (congrArg Value.int (law_true i0 i1 s_X w_arr cl HX))), trivial⟩ ⟨hq.1, hq.2.1, (hq.2.2.sift fun y hy => Or.inr (N y hy)).mono (by decide) (by decide)⟩⟩
theorem main_1_1 : Claimed_1_1 := comes_1 fun _ _ _ _ _ _ h hF => ⟨h.1, hF⟩
theorem main_1_2 : Claimed_1_2 := comes_1 fun _ _ _ _ _ _ h hF => ⟨h.2.1, hF⟩
end Jvm.Pilot.@@N@@
namespace Jvm.Pilot.@@N@@
open Jvm Jvm.ClassFile Sem Op Lib Jvm.Free Jvm.Stand Jvm.Pilot.@@N@@.Jvm.D
/-! MADE BY PROGRAM (witnessworld.py) out of the Statement's table words and the real class files: 14 classes; the members and pool entries that the words name. The judged class is class 1, her method 2. -/
namespace start1
open Jvm.ClassFile
def u (s : String) : CpInfo := .utf8 (stringToUtf16 s)
/-- a pool by its gaps: so many unusable entries, then the entry; so many at the end -/
def gap : Nat → List CpInfo → List CpInfo
  | 0, r => r
  | n + 1, r => .unusable :: gap n r
def poolList (es : List (Nat × CpInfo)) (last : Nat) : List CpInfo := es.foldr (fun e r => gap e.1 (e.2 :: r)) (gap last [])
def pool (es : List (Nat × CpInfo)) (last : Nat) : Array CpInfo := ⟨poolList es last⟩
def fileOf (pool : Array CpInfo) (this : Nat) (attrs : Array Attribute := #[]) (ms : Array MethodInfo := #[]) (fl : Nat := 33) (sup : Nat := 0) (ifs : Array Nat := #[]) (fds : Array FieldInfo := #[]) : ClassFile where
  minorVersion := 0
  majorVersion := 65
  constantPool := pool
  accessFlags := fl
  thisClass := this
  superClass := sup
  interfaces := ifs
  fields := fds
  methods := ms
  attributes := attrs
def plain (name : String) (sup : Option ClassId) : Class where
  name := name
  kind := .ordinary
  loader := none
  accessFlags := 33
  super := sup
  interfaces := #[]
  cf := none
  fields := #[]
  methods := #[]
  instanceTypes := #[]
  staticTypes := #[]
  resolved := #[]
  callSites := []
  init := .initialized
  statics := none
  mirror := none

def pool0 : Array CpInfo := pool [(5, u "<init>"), (0, u "()V"), (1, .class_ 10), (1, u "java/lang/Object")] 113

def k0m0 : Method := { name := "<init>", desc := "()V", sig := { parameters := [], returnType := none }, accessFlags := 1, code := none }
/-- java/lang/Object -/
def k0 : Class := { plain "java/lang/Object" none with
  accessFlags := 33
  interfaces := #[]
  cf := some (fileOf pool0 8 #[] #[{ accessFlags := 1, nameIndex := 5, descriptorIndex := 6, attributes := #[] }] 33 0 #[] #[])
  fields := #[]
  methods := #[k0m0]
  instanceTypes := #[]
  staticTypes := #[]
  resolved := Array.replicate 124 none
  statics := none }

def pool1 : Array CpInfo := pool [(2, .class_ 4), (1, u "java/lang/Object"), (0, u "<init>"), (0, u "()V"), (0, .fieldref 8 9), (0, .class_ 10), (0, .nameAndType 11 12), (0, u "com/example/rublewire/rublewire/fin/CharacterSet"), (0, u "X"), (0, u "Lcom/example/rublewire/rublewire/fin/CharacterSet;"), (0, .methodref 8 14), (0, .nameAndType 15 16), (0, u "contains"), (0, u "(I)Z"), (0, .methodref 18 19), (0, .class_ 20), (0, .nameAndType 21 16), (0, u "com/example/rublewire/rublewire/fin/CharacterSetContainsPinLaw"), (0, u "ref"), (3, u "law"), (0, u "(II)Z")] 2

def k1m0 : Method := { name := "<init>", desc := "()V", sig := { parameters := [], returnType := none }, accessFlags := 1, code := none }
def k1c1 : Code := { maxStack := 2, maxLocals := 1, code := method_2_code, exceptionTable := #[], attributes := #[] }
def k1m1 : Method := { name := "ref", desc := "(I)Z", sig := { parameters := [.int], returnType := some .boolean }, accessFlags := 10, code := some k1c1 }
def k1c2 : Code := { maxStack := 2, maxLocals := 6, code := code, exceptionTable := #[], attributes := #[] }
def k1m2 : Method := { name := "law", desc := "(II)Z", sig := { parameters := [.int, .int], returnType := some .boolean }, accessFlags := 9, code := some k1c2 }
/-- com/example/rublewire/rublewire/fin/CharacterSetContainsPinLaw -/
def k1 : Class := { plain "com/example/rublewire/rublewire/fin/CharacterSetContainsPinLaw" (some 0) with
  accessFlags := 49
  interfaces := #[]
  cf := some (fileOf pool1 18 #[] #[{ accessFlags := 1, nameIndex := 5, descriptorIndex := 6, attributes := #[] }, { accessFlags := 10, nameIndex := 21, descriptorIndex := 16, attributes := #[] }, { accessFlags := 9, nameIndex := 25, descriptorIndex := 26, attributes := #[] }] 49 2 #[] #[])
  fields := #[]
  methods := #[k1m0, k1m1, k1m2]
  instanceTypes := #[]
  staticTypes := #[]
  resolved := Array.replicate 29 none
  statics := none }

def pool2 : Array CpInfo := pool [(1, .class_ 2), (0, u "java/lang/constant/Constable"), (0, .class_ 4), (0, u "java/lang/Object")] 6

/-- java/lang/constant/Constable -/
def k2 : Class := { plain "java/lang/constant/Constable" (some 0) with
  accessFlags := 1537
  interfaces := #[]
  cf := some (fileOf pool2 1 #[] #[] 1537 3 #[] #[])
  fields := #[]
  methods := #[]
  instanceTypes := #[]
  staticTypes := #[]
  resolved := Array.replicate 11 none
  statics := none }

def pool3 : Array CpInfo := pool [(1, .class_ 2), (0, u "java/lang/Comparable"), (0, .class_ 4), (0, u "java/lang/Object")] 7

/-- java/lang/Comparable -/
def k3 : Class := { plain "java/lang/Comparable" (some 0) with
  accessFlags := 1537
  interfaces := #[]
  cf := some (fileOf pool3 1 #[] #[] 1537 3 #[] #[])
  fields := #[]
  methods := #[]
  instanceTypes := #[]
  staticTypes := #[]
  resolved := Array.replicate 12 none
  statics := none }

def pool4 : Array CpInfo := pool [(1, .class_ 2), (0, u "java/io/Serializable"), (0, .class_ 4), (0, u "java/lang/Object")] 2

/-- java/io/Serializable -/
def k4 : Class := { plain "java/io/Serializable" (some 0) with
  accessFlags := 1537
  interfaces := #[]
  cf := some (fileOf pool4 1 #[] #[] 1537 3 #[] #[])
  fields := #[]
  methods := #[]
  instanceTypes := #[]
  staticTypes := #[]
  resolved := Array.replicate 7 none
  statics := none }

def pool5 : Array CpInfo := pool [(2, .class_ 4), (1, u "java/lang/Enum"), (0, u "name"), (0, u "Ljava/lang/String;"), (2, u "ordinal"), (0, u "I"), (1, .class_ 14), (1, u "java/lang/Object"), (4, u "hash"), (86, .class_ 108), (1, u "java/lang/Enum$EnumDesc"), (2, .class_ 112), (0, u "java/lang/constant/Constable"), (0, .class_ 114), (0, u "java/lang/Comparable"), (0, .class_ 116), (0, u "java/io/Serializable")] 87

/-- java/lang/Enum -/
def k5 : Class := { plain "java/lang/Enum" (some 0) with
  accessFlags := 1057
  interfaces := #[2, 3, 4]
  cf := some (fileOf pool5 2 #[.nestMembers #[106]] #[] 1057 12 #[111, 113, 115] #[{ accessFlags := 18, nameIndex := 5, descriptorIndex := 6, attributes := #[] }, { accessFlags := 18, nameIndex := 9, descriptorIndex := 10, attributes := #[] }, { accessFlags := 2, nameIndex := 19, descriptorIndex := 10, attributes := #[] }])
  fields := #[{ name := "name", type := (.object "java/lang/String"), accessFlags := 18, slot := 0, constantValue := 0 }, { name := "ordinal", type := .int, accessFlags := 18, slot := 1, constantValue := 0 }, { name := "hash", type := .int, accessFlags := 2, slot := 2, constantValue := 0 }]
  methods := #[]
  instanceTypes := #[(.object "java/lang/String"), .int, .int]
  staticTypes := #[]
  resolved := Array.replicate 204 none
  statics := none }

def pool6 : Array CpInfo := pool [(1, .class_ 2), (0, u "com/example/rublewire/rublewire/fin/CharacterSet"), (2, u "X"), (0, u "Lcom/example/rublewire/rublewire/fin/CharacterSet;"), (2, u "$VALUES"), (0, u "[Lcom/example/rublewire/rublewire/fin/CharacterSet;"), (6, .class_ 19), (1, u "java/lang/Enum"), (6, .fieldref 1 27), (0, .nameAndType 28 29), (0, u "holds"), (0, u "[Z"), (2, u "name"), (0, u "Ljava/lang/String;"), (8, u "(I)Z"), (19, u "characters"), (10, u "contains"), (58, u "ASCII"), (0, u "I")] 35

def k6c0 : Code := { maxStack := 2, maxLocals := 2, code := prog_8_method_4_code, exceptionTable := #[], attributes := #[] }
def k6m0 : Method := { name := "contains", desc := "(I)Z", sig := { parameters := [.int], returnType := some .boolean }, accessFlags := 1, code := some k6c0 }
/-- com/example/rublewire/rublewire/fin/CharacterSet -/
def k6 : Class := { plain "com/example/rublewire/rublewire/fin/CharacterSet" (some 5) with
  accessFlags := 16433
  interfaces := #[]
  cf := some (fileOf pool6 1 #[] #[{ accessFlags := 1, nameIndex := 73, descriptorIndex := 42, attributes := #[] }] 16433 17 #[] #[{ accessFlags := 16409, nameIndex := 5, descriptorIndex := 6, attributes := #[] }, { accessFlags := 26, nameIndex := 132, descriptorIndex := 133, attributes := #[] }, { accessFlags := 18, nameIndex := 32, descriptorIndex := 33, attributes := #[] }, { accessFlags := 18, nameIndex := 28, descriptorIndex := 29, attributes := #[] }, { accessFlags := 18, nameIndex := 62, descriptorIndex := 33, attributes := #[] }, { accessFlags := 4122, nameIndex := 9, descriptorIndex := 10, attributes := #[] }])
  fields := #[{ name := "X", type := (.object "com/example/rublewire/rublewire/fin/CharacterSet"), accessFlags := 16409, slot := 0, constantValue := 0 }, { name := "ASCII", type := .int, accessFlags := 26, slot := 1, constantValue := 0 }, { name := "name", type := (.object "java/lang/String"), accessFlags := 18, slot := 3, constantValue := 0 }, { name := "holds", type := (.array .boolean), accessFlags := 18, slot := 4, constantValue := 0 }, { name := "characters", type := (.object "java/lang/String"), accessFlags := 18, slot := 5, constantValue := 0 }, { name := "$VALUES", type := (.array (.object "com/example/rublewire/rublewire/fin/CharacterSet")), accessFlags := 4122, slot := 2, constantValue := 0 }]
  methods := #[k6m0]
  instanceTypes := #[(.object "java/lang/String"), .int, .int, (.object "java/lang/String"), (.array .boolean), (.object "java/lang/String")]
  staticTypes := #[(.object "com/example/rublewire/rublewire/fin/CharacterSet"), .int, (.array (.object "com/example/rublewire/rublewire/fin/CharacterSet"))]
  resolved := Array.replicate 169 none
  statics := some 0 }

def pool7 : Array CpInfo := pool [(1, u "java/lang/Cloneable"), (0, .class_ 1), (0, u "java/lang/Object"), (0, .class_ 3)] 3

/-- java/lang/Cloneable -/
def k7 : Class := { plain "java/lang/Cloneable" (some 0) with
  accessFlags := 1537
  interfaces := #[]
  cf := some (fileOf pool7 2 #[] #[] 1537 4 #[] #[])
  fields := #[]
  methods := #[]
  instanceTypes := #[]
  staticTypes := #[]
  resolved := Array.replicate 8 none
  statics := none }

/-- the primitive boolean -/
def k8 : Class := { plain "boolean" none with kind := .primitive 'Z', accessFlags := 0x411 }
/-- [Z -/
def k9 : Class := { plain "[Z" (some 0) with kind := .array 8 .boolean, interfaces := #[7, 4], accessFlags := 1041 }

/-- the primitive byte -/
def k10 : Class := { plain "byte" none with kind := .primitive 'B', accessFlags := 0x411 }
/-- [B -/
def k11 : Class := { plain "[B" (some 0) with kind := .array 10 .byte, interfaces := #[7, 4], accessFlags := 1041 }

/-- the primitive int -/
def k12 : Class := { plain "int" none with kind := .primitive 'I', accessFlags := 0x411 }
/-- [I -/
def k13 : Class := { plain "[I" (some 0) with kind := .array 12 .int, interfaces := #[7, 4], accessFlags := 1041 }

def heap : Heap := #[{ cls := 6, slots := #[.ref 2, .int 0, .null], vm := .statics 6 },
  { cls := 9, slots := #[.int 0, .int 0, .int 0, .int 0, .int 0, .int 0, .int 0, .int 0, .int 0, .int 0, .int 0, .int 0, .int 0, .int 0, .int 0, .int 0, .int 0, .int 0, .int 0, .int 0, .int 0, .int 0, .int 0, .int 0, .int 0, .int 0, .int 0, .int 0, .int 0, .int 0, .int 0, .int 0, .int 1, .int 0, .int 0, .int 0, .int 0, .int 0, .int 0, .int 1, .int 1, .int 1, .int 0, .int 1, .int 1, .int 1, .int 1, .int 1, .int 1, .int 1, .int 1, .int 1, .int 1, .int 1, .int 1, .int 1, .int 1, .int 1, .int 1, .int 0, .int 0, .int 0, .int 0, .int 1, .int 0, .int 1, .int 1, .int 1, .int 1, .int 1, .int 1, .int 1, .int 1, .int 1, .int 1, .int 1, .int 1, .int 1, .int 1, .int 1, .int 1, .int 1, .int 1, .int 1, .int 1, .int 1, .int 1, .int 1, .int 1, .int 1, .int 1, .int 0, .int 0, .int 0, .int 0, .int 0, .int 0, .int 1, .int 1, .int 1, .int 1, .int 1, .int 1, .int 1, .int 1, .int 1, .int 1, .int 1, .int 1, .int 1, .int 1, .int 1, .int 1, .int 1, .int 1, .int 1, .int 1, .int 1, .int 1, .int 1, .int 1, .int 1, .int 1, .int 0, .int 0, .int 0, .int 0, .int 0], vm := .none },
  { cls := 6, slots := #[.null, .int 0, .int 0, .null, .ref 1, .null], vm := .none }]
def classes : Array Class := #[k0, k1, k2, k3, k4, k5, k6, k7, k8, k9, k10, k11, k12, k13]
def interned : List (Array UInt16 × Addr) := []
def slotsUsed : Nat := 137
def theMethod : MethodId := ⟨1, 2⟩
def args0 : Array Value := #[.int 5, .int 65]
def aboutOver (below : List Frame) : State where
  vm := { classes := classes, interned := interned.toArray }
  heap := heap
  slotsUsed := slotsUsed
  threads := #[{ frames := .invoking theMethod args0 :: below }]
def below0 : List Frame := [.native { method := ⟨0, 0⟩, args := #[] }]
def about1 : State := aboutOver below0
def p0 : Program := .bare "" "" ""
def e0 : Env := launch0.env 0 0 0
theorem w_frames : about1.frames = Frame.invoking theMethod args0 :: below0 := rfl
set_option maxRecDepth 65536 in
theorem w_args : argsFit about1.vm theMethod args0 = true := by decide +kernel
set_option maxRecDepth 65536 in
theorem w_heap : heapFits about1 = true := by decide +kernel
set_option maxRecDepth 65536 in
theorem w_runnable : about1.curStatus? = some .runnable := by decide +kernel
set_option maxRecDepth 65536 in
theorem w_alone : about1.alone = true := by decide +kernel
set_option maxRecDepth 65536 in
theorem w_named : about1.methodNamed? x = some theMethod := by decide +kernel
set_option maxRecDepth 65536 in
theorem w_hears : about1.hears theMethod below0 = true := by decide +kernel
set_option maxRecDepth 65536 in
theorem w_ripe : about1.ripe theMethod args0 below0 = true := by decide +kernel
theorem w_running : about1.status = .running := rfl
set_option maxRecDepth 65536 in
theorem w_room : about1.hasRoom e0.platform room_1 = true :=
  launch0.hasRoom_least _ room_1 (by decide +kernel) (by decide +kernel) (by decide +kernel) (by decide +kernel) (by decide +kernel) (by decide +kernel)
theorem allAtoms_all (ts : List Jvm.Cond) (a : Array Jvm.Value) (st : Jvm.State) : (allAtoms ts).before a st = ts.all (fun c => c.before a st) := by
  induction ts with
  | nil => rfl
  | cons c t ih =>
    show (Jvm.Cond.and c (allAtoms t)).before a st = _
    rw [Jvm.Cond.before_and, ih, List.all_cons]
def words1 : List Jvm.Cond := Jvm.Cond.code x code maxLocals ret :: tables_1
/-- a 'code' word, met by the world's own term for the bytes: nothing is compared byte by byte -/
theorem code_word {y : MethodName} {bytes : ByteArray} {mx : Nat} {rt : Option FieldType} {a : Array Value} {s : State} {m : MethodId} {meth : Method} {c : Code} (h1 : s.methodNamed? y = some m) (h2 : s.vm.method? m = some meth) (h3 : meth.code = some c) (h4 : c.code = bytes)
    (h5 : (c.maxLocals == mx && c.exceptionTable.isEmpty && decide (c.maxStack ≤ mostOperands) && decide (meth.sig.returnType = rt) && !meth.locks && decide (parseMethodDescriptor y.desc = some meth.sig)) = true) : (Jvm.Cond.code y bytes mx rt).before a s = true := by
  simp only [Bool.and_eq_true, beq_iff_eq, Bool.not_eq_true', decide_eq_true_eq] at h5
  obtain ⟨⟨⟨⟨⟨g1, g2⟩, g3⟩, g4⟩, g5⟩, g6⟩ := h5
  simp [Cond.before, Cond.holds, Cond.value, h1, h2, h3, h4, g1, g2, g3, g4, g5, g6]
def isCode : Jvm.Cond → Bool
  | .code _ _ _ _ => true
  | _ => false
theorem all_split {L : List Jvm.Cond} {P : Jvm.Cond → Bool} (h1 : L.all (fun c => isCode c || P c) = true) (h2 : ∀ c ∈ L.filter isCode, P c = true) : L.all P = true := by
  refine List.all_eq_true.mpr fun c hc => ?_
  have h := List.all_eq_true.mp h1 c hc
  rcases Bool.eq_false_or_eq_true (isCode c) with hi | hi
  · exact h2 c (List.mem_filter.mpr ⟨hc, hi⟩)
  · simpa [hi] using h
set_option maxRecDepth 65536 in
theorem w_c0 : (Jvm.Cond.code x code maxLocals ret).before args0 about1 = true := code_word (m := ⟨1, 2⟩) (meth := k1m2) (c := k1c2) (by decide +kernel) rfl rfl rfl (by decide +kernel)
set_option maxRecDepth 65536 in
theorem w_c1 : (Jvm.Cond.code ({ cls := "com/example/rublewire/rublewire/fin/CharacterSet", name := "contains", desc := "(I)Z" } : Jvm.MethodName) prog_8_method_4_code (2 : Nat) (Option.some Jvm.ClassFile.FieldType.boolean)).before args0 about1 = true := code_word (m := ⟨6, 0⟩) (meth := k6m0) (c := k6c0) (by decide +kernel) rfl rfl rfl (by decide +kernel)
set_option maxRecDepth 65536 in
theorem w_c2 : (Jvm.Cond.code ({ cls := "com/example/rublewire/rublewire/fin/CharacterSetContainsPinLaw", name := "ref", desc := "(I)Z" } : Jvm.MethodName) method_2_code (1 : Nat) (Option.some Jvm.ClassFile.FieldType.boolean)).before args0 about1 = true := code_word (m := ⟨1, 1⟩) (meth := k1m1) (c := k1c1) (by decide +kernel) rfl rfl rfl (by decide +kernel)
def codes1 : List Jvm.Cond := [Jvm.Cond.code x code maxLocals ret, Jvm.Cond.code ({ cls := "com/example/rublewire/rublewire/fin/CharacterSet", name := "contains", desc := "(I)Z" } : Jvm.MethodName) prog_8_method_4_code (2 : Nat) (Option.some Jvm.ClassFile.FieldType.boolean), Jvm.Cond.code ({ cls := "com/example/rublewire/rublewire/fin/CharacterSetContainsPinLaw", name := "ref", desc := "(I)Z" } : Jvm.MethodName) method_2_code (1 : Nat) (Option.some Jvm.ClassFile.FieldType.boolean)]
set_option maxRecDepth 65536 in
theorem codes_eq : words1.filter isCode = codes1 := rfl
theorem w_codes : ∀ c ∈ words1.filter isCode, c.before args0 about1 = true := by
  rw [codes_eq]
  intro c hc
  simp only [codes1, List.mem_cons, List.not_mem_nil, or_false] at hc
  rcases hc with rfl | rfl | rfl
  · exact w_c0
  · exact w_c1
  · exact w_c2
set_option maxRecDepth 65536 in
theorem w_t1 : words1.all (fun c => isCode c || c.before args0 about1) = true := by decide +kernel
theorem w_tables : (allAtoms (Jvm.Cond.code x code maxLocals ret :: tables_1)).before args0 about1 = true := by
  rw [allAtoms_all]
  show words1.all (fun c => c.before args0 about1) = true
  refine all_split ?_ w_codes
  rw [w_t1]
set_option maxRecDepth 65536 in
theorem w_case : (Jvm.Cond.and given_1 narrow_1).before args0 about1 = true := by decide +kernel
theorem w_applies : (headSpec (Jvm.Cond.code x code maxLocals ret :: tables_1) room_1).applies x e0.platform about1 = true :=
  (Spec.applies_iff w_frames).mpr ⟨w_running, w_runnable, w_alone, w_named, w_hears, w_ripe, w_room, w_tables⟩
theorem atStart : AtStart classFile x code maxLocals ret World_1 tables_1 room_1 Calls_1 rest_1 Pre_1 launch0 p0 e0 about1 theMethod args0 below0 :=
  ⟨lists_1, trivial, launch0.admits_env _ _ _, launch0.least_env, fairChoices_fair.cas, fairChoices_fair.clock, w_frames, w_args, w_heap, w_applies, trivial, trivial, w_case⟩
end start1
theorem witness_1 : WitnessClaimed_1 := ⟨start1.p0, start1.e0, start1.about1, start1.theMethod, start1.args0, start1.below0, start1.atStart⟩
end Jvm.Pilot.@@N@@
