import JvmDerived
import JvmDerived.Pilot.@@N@@Statement
import JvmDerived.Pilot.@@N@@Code
set_option linter.unusedVariables false
set_option linter.unusedSimpArgs false
namespace Jvm.OwnKit
open Sem ClassFile Op Lib Jvm.Stand Jvm.Free Jvm.LawKit Jvm.RoadKit
section Kit
variable {p : Program} {l : Launch} {e : Env} {R : Room} {s : State} {m : MethodId} {args : Array Value} {below : List Frame} {meth : Method} {c : Code} {T : State} {locs : List Loc} {cells slots : Nat} {Z : State} {a0 : Array Value} {h h0 : Heap} {kc ks : Nat} {Q : Option Value → Heap → List Loc → Prop}
/-- from this state the body comes to its end, and Q holds of what it returns, of the heap there and of the places written -/
def Go (p : Program) (e : Env) (below : List Frame) (s : State) (kc ks : Nat) (Q : Option Value → Heap → List Loc → Prop) (a : State) : Prop :=
  ∃ (t : State) (o : Outcome), Steps p.tables e below a t ∧ t.status = .running ∧ Ended t below o ∧ ∃ v L, o = .returned v ∧ Q v t.heap L ∧ FrameEnd s o t L kc ks
theorem Go.of {a b : State} (st : ∀ t, Steps p.tables e below b t → Steps p.tables e below a t) (k : Go p e below s kc ks Q b) : Go p e below s kc ks Q a := by
  obtain ⟨t, o, h, r⟩ := k
  exact ⟨t, o, st t h, r⟩
theorem pad (X : Stand p l e R s m args below meth c T locs cells slots) {cells' slots' : Nat} (hc : cells ≤ cells') (hs : slots ≤ slots') : Stand p l e R s m args below meth c T locs cells' slots' :=
  ⟨X.admits, X.cas, X.clock, X.frames, X.room, X.hears, X.method, X.code, X.here, X.tail, X.warmed, X.limits, X.bytes, X.same.mono hc hs⟩
theorem Go.leave (X : Stand p l e R s m args below meth c T locs cells slots) (hlk : meth.locks = false) {v : Option Value} (hv : meth.sig.returnType = none → v = none) {g : JFrame}
    (st : ∀ fs, (∀ (f : JFrame) (acts : List Action), f.method = m → f.locked = none → f.entered = [] → (doReturn e (T.setTop f) acts v).1 = T.setFrames fs) → Steps p.tables e below (T.setTop g) (T.setFrames fs))
    (hc : cells ≤ kc) (hs : slots ≤ ks) (q : Q v T.heap locs) : Go p e below s kc ks Q (T.setTop g) := by
  obtain ⟨fs, hr, hrun, hended, hW, hsame⟩ := X.leave hv hlk
  exact ⟨_, _, st fs hr, hrun, hended, v, locs, rfl, q, ⟨_, rfl⟩, hW, hsame.mono hc hs⟩
theorem Go.retI (X : Stand p l e R s m args below meth c T locs cells slots) (hx : p.tables.exec = Jvm.exec) (hlk : meth.locks = false) (hret : meth.sig.returnType = some .int) {pc : Nat} {Ls : Array Slot} {z : Int32} {rest : List Value}
    (hd : decode c.code pc = .ok (.ireturn, 1)) (hc : cells ≤ kc) (hs : slots ≤ ks) (q : Q (some (.int z)) T.heap locs) : Go p e below s kc ks Q (T.setTop (mkF m pc Ls (.int z :: rest))) :=
  Go.leave X hlk (fun h => by rw [hret] at h; cases h) (fun fs hr => retOut X hx hret rfl (Or.inl ⟨rfl, Or.inl rfl, z, rfl⟩) hd hr) hc hs q
theorem Go.retN (X : Stand p l e R s m args below meth c T locs cells slots) (hx : p.tables.exec = Jvm.exec) (hlk : meth.locks = false) {t : FieldType} (hret : meth.sig.returnType = some t) (ht : t = .boolean ∨ t = .byte ∨ t = .char ∨ t = .short) {pc : Nat} {Ls : Array Slot} {z : Int32} {rest : List Value}
    (hd : decode c.code pc = .ok (.ireturn, 1)) (hz : nar t z = z) (hc : cells ≤ kc) (hs : slots ≤ ks) (q : Q (some (.int z)) T.heap locs) : Go p e below s kc ks Q (T.setTop (mkF m pc Ls (.int z :: rest))) :=
  Go.leave X hlk (fun h => by rw [hret] at h; cases h) (fun fs hr => RoadKit.retN X hx hret ht hd (by rw [hz]; exact hr)) hc hs q
theorem Go.retJ (X : Stand p l e R s m args below meth c T locs cells slots) (hx : p.tables.exec = Jvm.exec) (hlk : meth.locks = false) (hret : meth.sig.returnType = some .long) {pc : Nat} {Ls : Array Slot} {z : Int64} {rest : List Value}
    (hd : decode c.code pc = .ok (.lreturn, 1)) (hc : cells ≤ kc) (hs : slots ≤ ks) (q : Q (some (.long z)) T.heap locs) : Go p e below s kc ks Q (T.setTop (mkF m pc Ls (.long z :: rest))) :=
  Go.leave X hlk (fun h => by rw [hret] at h; cases h) (fun fs hr => retOut X hx hret rfl (Or.inr (Or.inl ⟨rfl, rfl, z, rfl⟩)) hd hr) hc hs q
theorem Go.retA (X : Stand p l e R s m args below meth c T locs cells slots) (hx : p.tables.exec = Jvm.exec) (hlk : meth.locks = false) {t : FieldType} (hret : meth.sig.returnType = some t) (ht : t.isReference = true) {pc : Nat} {Ls : Array Slot} {z : Value} {rest : List Value} (hz : z.isRef = true)
    (hd : decode c.code pc = .ok (.areturn, 1)) (hc : cells ≤ kc) (hs : slots ≤ ks) (q : Q (some z) T.heap locs) : Go p e below s kc ks Q (T.setTop (mkF m pc Ls (z :: rest))) :=
  Go.leave X hlk (fun h => by rw [hret] at h; cases h) (fun fs hr => retOut X hx hret (by cases t <;> first | rfl | (simp [FieldType.isReference] at ht; done)) (Or.inr (Or.inr (Or.inr (Or.inr ⟨rfl, ht, hz⟩)))) hd hr) hc hs q
theorem Go.retV (X : Stand p l e R s m args below meth c T locs cells slots) (hx : p.tables.exec = Jvm.exec) (hlk : meth.locks = false) (hret : meth.sig.returnType = none) {pc : Nat} {Ls : Array Slot}
    (hd : decode c.code pc = .ok (.return_, 1)) (hc : cells ≤ kc) (hs : slots ≤ ks) (q : Q none T.heap locs) : Go p e below s kc ks Q (T.setTop (mkF m pc Ls [])) :=
  Go.leave X hlk (fun _ => rfl) (fun fs hr => X.returnOut hx hret hd hr) hc hs q
/-- a body's contract: called with these arguments over this heap it returns, and Q holds -/
def Con (l : Launch) (Z : State) (y : MethodName) (bytes : ByteArray) (maxL : Nat) (ret : Option FieldType) (rm : Room) (as' : Array Value) (h0 : Heap) (Q : Option Value → Heap → List Loc → Prop) : Prop :=
  ∀ ws : List Cond, MetFree l y (head1 (Cond.code y bytes maxL ret :: ws) rm) (fun a U => a = as' ∧ Z.Warmed39 U.vm ∧ U.heap = h0) (fun _ _ _ _ _ => True) (fun _ U o U' => ∃ v L, o = .returned v ∧ Q v U'.heap L ∧ FrameEnd U o U' L rm.cells rm.slots)
theorem Con.intro {y : MethodName} {bytes : ByteArray} {maxL : Nat} {ret : Option FieldType} {rm : Room} {as' : Array Value} {gf : MethodId → JFrame} (hpl : plainFor y = true) (hef : ∀ m, entryFrame m as' maxL = gf m)
    (body : ∀ (p : Program) (e : Env) (s : State) (m : MethodId) (below : List Frame) (meth : Method) (c : Code) (s₁ : State), p.tables.exec = Jvm.exec → c.code = bytes → c.maxLocals = maxL → Z.Warmed39 s.vm → s.vm.findClass y.cls = some m.cls → meth.name = y.name → meth.sig.returnType = ret → meth.locks = false →
      Stand p l e rm s m as' below meth c s₁ [] 0 0 → s₁.heap = h0 → Go p e below s rm.cells rm.slots Q (s₁.setTop (gf m))) : Con l Z y bytes maxL ret rm as' h0 Q := by
  intro ws
  refine MetFree.of_bodySF hpl hisR ?_
  intro p e s m args below meth c s₁ Bd hml hP hK
  obtain ⟨rfl, hZ, hh⟩ := hP
  have k := body p e s m below meth c s₁ Bd.exec Bd.bytes hml hZ (findClass_of_methodNamed Bd.named) (name_of_methodNamed Bd.named Bd.method).1 Bd.returns Bd.notSynchronized (Stand.of_body Bd) (by rw [← hh, Bd.state]; rfl)
  rw [← hef m] at k
  exact k
theorem Go.static (X : Stand p l e R s m args below meth c T locs cells slots) (hx : p.tables.exec = Jvm.exec) (hZ : Z.Warmed39 s.vm) {own : String} {index : Nat} {y : MethodName} {bytes : ByteArray} {maxL : Nat} {ret : Option FieldType} {rm : Room} {Q' : Option Value → Heap → List Loc → Prop} {argsL : List Value}
    (hown : s.vm.findClass own = some m.cls) (w1 : (Cond.methodLink own index y).before a0 Z = true) (w2 : (Cond.static y).before a0 Z = true) (w3 : (Cond.initialized y.cls).before a0 Z = true) (w4 : (Cond.code y bytes maxL ret).before a0 Z = true)
    (hy : y.cls ≠ "java/lang/invoke/MethodHandle" ∧ y.cls ≠ "java/lang/invoke/VarHandle") (W : Nat) (eT : T.heap = h) (K : Con l Z y bytes maxL ret rm argsL.toArray h Q') (hf : rm.frames + 1 ≤ R.frames) (hlo : W + (maxL + 11) + rm.locals ≤ R.locals) (hc : cells + rm.cells ≤ R.cells) (hs : slots + rm.slots ≤ R.slots)
    {g : JFrame} (hg : g.method = m) (hsize : g.locals.size = c.maxLocals) {rest : List Value} (hlen : ∀ sig, parseMethodDescriptor y.desc = some sig → argsL.length = sig.parameters.length) (hstack : g.stack = argsL.reverse ++ rest) (hW : 2 * g.monitorRoom + (rest.map fun v => v.category).sum ≤ W)
    (hd : decode c.code g.pc = .ok (.invokestatic index, 3))
    (k : ∀ (T' : State) (v : Option Value) (L : List Loc), Stand p l e R s m args below meth c T' (locs ++ L) (cells + rm.cells) (slots + rm.slots) → Q' v T'.heap L → Go p e below s kc ks Q (T'.setTop { g with pc := g.pc + 3, stack := v.toList ++ rest })) : Go p e below s kc ks Q (T.setTop g) := by
  obtain ⟨v, _, ⟨T', L', k', n'⟩, -, X', ⟨Lc, hQ, l1, l2, l3⟩, st⟩ := Jvm.LawKit.callS X hx hown (mvT hZ w1) (mvT hZ w2) (mvT hZ w3) (mvT hZ w4) hy (backOf (W := W) (K []) hZ w4 w3 hf hlo) hg hsize hlen hstack hW hd (fun _ _ => ⟨rfl, eT, hc, hs⟩)
  dsimp only [Pt.U, Pt.locs, Pt.cells, Pt.slots] at X' l1 l2 l3 st hQ
  subst l1 l2 l3
  exact Go.of st (k T' v Lc X' hQ)
theorem Go.special (X : Stand p l e R s m args below meth c T locs cells slots) (hx : p.tables.exec = Jvm.exec) (hZ : Z.Warmed39 s.vm) {own : String} {index : Nat} {y : MethodName} {bytes : ByteArray} {maxL : Nat} {rm : Room} {Q' : Option Value → Heap → List Loc → Prop} {a : Addr} {argsL : List Value} (hy1 : y.name = "<init>")
    (hown : s.vm.findClass own = some m.cls) (w1 : (Cond.methodLink own index y).before a0 Z = true) (w2 : (Cond.instanceMethod y).before a0 Z = true) (w3 : (Cond.initialized y.cls).before a0 Z = true) (w4 : (Cond.code y bytes maxL none).before a0 Z = true)
    (hy : y.cls ≠ "java/lang/invoke/MethodHandle" ∧ y.cls ≠ "java/lang/invoke/VarHandle") (W : Nat) (eT : T.heap = h) (K : Con l Z y bytes maxL none rm (Value.ref a :: argsL).toArray h Q') (hf : rm.frames + 1 ≤ R.frames) (hlo : W + (maxL + 11) + rm.locals ≤ R.locals) (hc : cells + rm.cells ≤ R.cells) (hs : slots + rm.slots ≤ R.slots)
    {g : JFrame} (hg : g.method = m) (hsize : g.locals.size = c.maxLocals) {rest : List Value} (hlen : ∀ sig, parseMethodDescriptor y.desc = some sig → argsL.length = sig.parameters.length) (hstack : g.stack = argsL.reverse ++ .ref a :: rest) (hW : 2 * g.monitorRoom + (rest.map fun v => v.category).sum ≤ W)
    (hd : decode c.code g.pc = .ok (.invokespecial index, 3))
    (k : ∀ (T' : State) (v : Option Value) (L : List Loc), Stand p l e R s m args below meth c T' (locs ++ L) (cells + rm.cells) (slots + rm.slots) → Q' v T'.heap L → Go p e below s kc ks Q (T'.setTop { g with pc := g.pc + 3, stack := v.toList ++ rest })) : Go p e below s kc ks Q (T.setTop g) := by
  obtain ⟨v, _, ⟨T', L', k', n'⟩, -, X', ⟨Lc, hQ, l1, l2, l3⟩, st⟩ := X.specialBack hx hy1 hown (mvT hZ w1) (mvT hZ w2) (mvT hZ w4) hy (backOf (W := W) (K []) hZ w4 w3 hf hlo) hg hsize (Steps.refl _) hlen hstack hW hd (fun _ _ => ⟨rfl, eT, hc, hs⟩)
  dsimp only [Pt.U, Pt.locs, Pt.cells, Pt.slots] at X' l1 l2 l3 st hQ
  subst l1 l2 l3
  exact Go.of (fun _ q => st.trans q) (k T' v Lc X' hQ)
theorem Go.virtual (X : Stand p l e R s m args below meth c T locs cells slots) (hx : p.tables.exec = Jvm.exec) (hZ : Z.Warmed39 s.vm) {own C : String} {index : Nat} {y z : MethodName} {bytes : ByteArray} {maxL : Nat} {ret : Option FieldType} {rm : Room} {Q' : Option Value → Heap → List Loc → Prop} {a : Addr} {argsL : List Value}
    (hown : s.vm.findClass own = some m.cls) (w1 : (Cond.methodLink own index y).before a0 Z = true) (w2 : (Cond.declares y).before a0 Z = true) (hnf : NotFace s y) (w5 : (Cond.selects C y z).before a0 Z = true) (w6 : (Cond.instanceMethod z).before a0 Z = true) (w3 : (Cond.initialized z.cls).before a0 Z = true) (w4 : (Cond.code z bytes maxL ret).before a0 Z = true)
    (hy : y.cls ≠ "java/lang/invoke/MethodHandle" ∧ y.cls ≠ "java/lang/invoke/VarHandle") (W : Nat) (eT : T.heap = h) (E : Exa Z h a C) (K : Con l Z z bytes maxL ret rm (Value.ref a :: argsL).toArray h Q') (hf : rm.frames + 1 ≤ R.frames) (hlo : W + (maxL + 11) + rm.locals ≤ R.locals) (hc : cells + rm.cells ≤ R.cells) (hs : slots + rm.slots ≤ R.slots)
    {g : JFrame} (hg : g.method = m) (hsize : g.locals.size = c.maxLocals) {rest : List Value} (hlen : ∀ sig, parseMethodDescriptor y.desc = some sig → argsL.length = sig.parameters.length) (hstack : g.stack = argsL.reverse ++ .ref a :: rest) (hW : 2 * g.monitorRoom + (rest.map fun v => v.category).sum ≤ W)
    (hd : decode c.code g.pc = .ok (.invokevirtual index, 3))
    (k : ∀ (T' : State) (v : Option Value) (L : List Loc), Stand p l e R s m args below meth c T' (locs ++ L) (cells + rm.cells) (slots + rm.slots) → Q' v T'.heap L → Go p e below s kc ks Q (T'.setTop { g with pc := g.pc + 3, stack := v.toList ++ rest })) : Go p e below s kc ks Q (T.setTop g) := by
  obtain ⟨cq, kq, qa, -, qc⟩ := isOf hZ eT E
  obtain ⟨v, _, ⟨T', L', k', n'⟩, -, X', ⟨Lc, hQ, l1, l2, l3⟩, st⟩ := X.virtualBack hx hown (mvT hZ w1) (mvT hZ w2) hnf (mvT hZ w5) (mvT hZ w6) hy (backOf (W := W) (K []) hZ w4 w3 hf hlo) qa qc hg hsize (Steps.refl _) hlen hstack hW hd (fun _ _ => ⟨rfl, eT, hc, hs⟩)
  dsimp only [Pt.U, Pt.locs, Pt.cells, Pt.slots] at X' l1 l2 l3 st hQ
  subst l1 l2 l3
  exact Go.of (fun _ q => st.trans q) (k T' v Lc X' hQ)
theorem Go.virtualUp (X : Stand p l e R s m args below meth c T locs cells slots) (hx : p.tables.exec = Jvm.exec) (hZ : Z.Warmed39 s.vm) {own C owner : String} {index : Nat} {y z : MethodName} {bytes : ByteArray} {maxL : Nat} {ret : Option FieldType} {rm : Room} {Q' : Option Value → Heap → List Loc → Prop} {a : Addr} {argsL : List Value}
    (hown : s.vm.findClass own = some m.cls) (w1 : (Cond.methodLink own index y).before a0 Z = true) (w2 : (Cond.sameMethod y.cls owner y.name y.desc).before a0 Z = true) (w7 : (Cond.declares ⟨owner, y.name, y.desc⟩).before a0 Z = true) (w5 : (Cond.selects C y z).before a0 Z = true) (w6 : (Cond.instanceMethod z).before a0 Z = true) (w3 : (Cond.initialized z.cls).before a0 Z = true) (w4 : (Cond.code z bytes maxL ret).before a0 Z = true)
    (hy : owner ≠ "java/lang/invoke/MethodHandle" ∧ owner ≠ "java/lang/invoke/VarHandle") (W : Nat) (eT : T.heap = h) (E : Exa Z h a C) (K : Con l Z z bytes maxL ret rm (Value.ref a :: argsL).toArray h Q') (hf : rm.frames + 1 ≤ R.frames) (hlo : W + (maxL + 11) + rm.locals ≤ R.locals) (hc : cells + rm.cells ≤ R.cells) (hs : slots + rm.slots ≤ R.slots)
    {g : JFrame} (hg : g.method = m) (hsize : g.locals.size = c.maxLocals) {rest : List Value} (hlen : ∀ sig, parseMethodDescriptor y.desc = some sig → argsL.length = sig.parameters.length) (hstack : g.stack = argsL.reverse ++ .ref a :: rest) (hW : 2 * g.monitorRoom + (rest.map fun v => v.category).sum ≤ W)
    (hd : decode c.code g.pc = .ok (.invokevirtual index, 3))
    (k : ∀ (T' : State) (v : Option Value) (L : List Loc), Stand p l e R s m args below meth c T' (locs ++ L) (cells + rm.cells) (slots + rm.slots) → Q' v T'.heap L → Go p e below s kc ks Q (T'.setTop { g with pc := g.pc + 3, stack := v.toList ++ rest })) : Go p e below s kc ks Q (T.setTop g) := by
  obtain ⟨cq, kq, qa, -, qc⟩ := isOf hZ eT E
  obtain ⟨v, _, ⟨T', L', k', n'⟩, -, X', ⟨Lc, hQ, l1, l2, l3⟩, st⟩ := X.virtualBackUp hx hown (mvT hZ w1) (mvT hZ w2) (mvT hZ w7) hy (mvT hZ w5) (mvT hZ w6) (backOf (W := W) (K []) hZ w4 w3 hf hlo) qa qc hg hsize (Steps.refl _) hlen hstack hW hd (fun _ _ => ⟨rfl, eT, hc, hs⟩)
  dsimp only [Pt.U, Pt.locs, Pt.cells, Pt.slots] at X' l1 l2 l3 st hQ
  subst l1 l2 l3
  exact Go.of (fun _ q => st.trans q) (k T' v Lc X' hQ)
/-- a cast of what may be null -/
theorem castV (X : Stand p l e R s m args below meth c T locs cells slots) (hx : p.tables.exec = Jvm.exec) (hZ : Z.Warmed39 s.vm) {own K : String} {index : Nat} (hown : s.vm.findClass own = some m.cls) (w : (Cond.classLink own index K).before a0 Z = true) (eT : T.heap = h) {v : Value} (F : v = .null ∨ ∃ a, v = .ref a ∧ Ins Z h a K true)
    {g : JFrame} (hg : g.method = m) {rest : List Value} (hs : g.stack = v :: rest) (hd : decode c.code g.pc = .ok (.checkcast index, 3)) : ∃ T', Stand p l e R s m args below meth c T' locs cells slots ∧ T'.heap = h ∧ ∀ target, Steps p.tables e below (T'.setTop { g with pc := g.pc + 3 }) target → Steps p.tables e below (T.setTop g) target := by
  rcases F with rfl | ⟨a, rfl, I⟩
  · exact ⟨T, X, eT, fun target q => X.checkcastNull hx hg hs hd target q⟩
  · exact castY X hx hZ hown w eT I hg hs hd
end Kit
end Jvm.OwnKit
namespace Jvm.Pilot.@@N@@
open Jvm Jvm.ClassFile Sem Op Lib Jvm.Free Jvm.Stand Jvm.LawKit Jvm.RoadKit Jvm.OwnKit Bundle Jvm.Pilot.@@N@@.Jvm.D
theorem eqi_v {args : Array Value} {first s : State} {o : Option Outcome} {idx : List Nat} {t : Term} {n : Int32} (h : (Jvm.Cond.eq t (.int n)).value args first o s idx = some true) : t.eval args first o idx s = some (.int n) := by
  simp only [Cond.value] at h
  cases ht : t.eval args first o idx s with
  | none => simp [ht] at h
  | some x => cases x <;> simp_all [Term.eval]
def own_pick (k : Int32) (p0 p1 p2 p3 p4 p5 : Addr) : Addr := if k = (0 : Int32) then p0 else if k = (1 : Int32) then p1 else if k = (2 : Int32) then p2 else if k = (3 : Int32) then p3 else if k = (4 : Int32) then p4 else p5
theorem own_all (P : Addr → Prop) (k : Int32) (p0 p1 p2 p3 p4 p5 : Addr) (h0 : P p0) (h1 : P p1) (h2 : P p2) (h3 : P p3) (h4 : P p4) (h5 : P p5) : P (own_pick k p0 p1 p2 p3 p4 p5) := by
  unfold own_pick
  repeat' split
  all_goals assumption
theorem own_q (k : Int32) (p0 p1 p2 p3 p4 p5 : Addr) (n1 : p1 ≠ p0) (n2 : p2 ≠ p0) (n3 : p3 ≠ p0) (n4 : p4 ≠ p0) (n5 : p5 ≠ p0) :
    (if (own_pick k p0 p1 p2 p3 p4 p5) = p0 then p1 else (own_pick k p0 p1 p2 p3 p4 p5)) = own_pick k p1 p1 p2 p3 p4 p5 ∧ (if (own_pick k p0 p1 p2 p3 p4 p5) = p0 then p1 else (own_pick k p0 p1 p2 p3 p4 p5)) ≠ p0 := by
  unfold own_pick
  by_cases a0 : k = 0
  · simp [a0, n1]
  by_cases a1 : k = 1
  · subst a1; simp [n1]
  by_cases a2 : k = 2
  · subst a2; simp [n2]
  by_cases a3 : k = 3
  · subst a3; simp [n3]
  by_cases a4 : k = 4
  · subst a4; simp [n4]
  · simp [a0, a1, a2, a3, a4, n5]
theorem own_twice (z p0 p1 : Addr) (h : z ≠ p0) : (if z = p0 then p1 else z) = z := if_neg h
theorem d1_0 : decode method_3_code 0 = .ok (.iload_n 0, 1) := by decide +kernel
theorem d1_1 : decode method_3_code 1 = .ok (.ifCond .ne 7, 3) := by decide +kernel
theorem d1_4 : decode method_3_code 4 = .ok (.getstatic 23, 3) := by decide +kernel
theorem d1_7 : decode method_3_code 7 = .ok (.areturn, 1) := by decide +kernel
theorem d1_8 : decode method_3_code 8 = .ok (.iload_n 0, 1) := by decide +kernel
theorem d1_9 : decode method_3_code 9 = .ok (.iconst 1, 1) := by decide +kernel
theorem d1_10 : decode method_3_code 10 = .ok (.if_icmp .ne 7, 3) := by decide +kernel
theorem d1_13 : decode method_3_code 13 = .ok (.getstatic 27, 3) := by decide +kernel
theorem d1_16 : decode method_3_code 16 = .ok (.areturn, 1) := by decide +kernel
theorem d1_17 : decode method_3_code 17 = .ok (.iload_n 0, 1) := by decide +kernel
theorem d1_18 : decode method_3_code 18 = .ok (.iconst 2, 1) := by decide +kernel
theorem d1_19 : decode method_3_code 19 = .ok (.if_icmp .ne 7, 3) := by decide +kernel
theorem d1_22 : decode method_3_code 22 = .ok (.getstatic 30, 3) := by decide +kernel
theorem d1_25 : decode method_3_code 25 = .ok (.areturn, 1) := by decide +kernel
theorem d1_26 : decode method_3_code 26 = .ok (.iload_n 0, 1) := by decide +kernel
theorem d1_27 : decode method_3_code 27 = .ok (.iconst 3, 1) := by decide +kernel
theorem d1_28 : decode method_3_code 28 = .ok (.if_icmp .ne 7, 3) := by decide +kernel
theorem d1_31 : decode method_3_code 31 = .ok (.getstatic 33, 3) := by decide +kernel
theorem d1_34 : decode method_3_code 34 = .ok (.areturn, 1) := by decide +kernel
theorem d1_35 : decode method_3_code 35 = .ok (.iload_n 0, 1) := by decide +kernel
theorem d1_36 : decode method_3_code 36 = .ok (.iconst 4, 1) := by decide +kernel
theorem d1_37 : decode method_3_code 37 = .ok (.if_icmp .ne 7, 3) := by decide +kernel
theorem d1_40 : decode method_3_code 40 = .ok (.getstatic 36, 3) := by decide +kernel
theorem d1_43 : decode method_3_code 43 = .ok (.areturn, 1) := by decide +kernel
theorem d1_44 : decode method_3_code 44 = .ok (.getstatic 39, 3) := by decide +kernel
theorem d1_47 : decode method_3_code 47 = .ok (.areturn, 1) := by decide +kernel
theorem pn0 : plainName "com/example/latchwork/latchwork/ModeQueuedAsPinLaw" = true := by first | (simp [plainName, overriddenIn]; done) | decide +kernel
theorem ef_1 (m : MethodId) (x1 : Int32) : entryFrame m #[(.int x1)] 1 = mkF m 0 #[.val (.int x1)] [] := by first | (simp [entryFrame, mkF, argsToLocals, Value.category]; done) | rfl
def Q1 (Z : State) (x1 : Int32) (o0 : Addr) (o1 : Addr) (o2 : Addr) (o3 : Addr) (o4 : Addr) (o5 : Addr) (h0 : Heap) (n0 : Nat) (v : Option Value) (h : Heap) (L : List Loc) : Prop := v = some (.ref (own_pick x1 o0 o1 o2 o3 o4 o5)) ∧ Fr n0 L ∧ h = h0
set_option maxRecDepth 65536 in
set_option maxHeartbeats 40000000 in
theorem rm1 (l : Launch) (Z : State) (a0 : Array Value) (hw : ∀ d ∈ tables_1, d.before a0 Z = true) (x1 : Int32) (o0 : Addr) (o1 : Addr) (o2 : Addr) (o3 : Addr) (o4 : Addr) (o5 : Addr) (h0 : Heap) (n0 : Nat) (Zs : n0 ≤ h0.size) (Od : Old Z n0 h0) (S_0 : Sta Z Z.heap "com/example/latchwork/latchwork/LockManager$Mode" "INTENTION_SHARED" "Lcom/example/latchwork/latchwork/LockManager$Mode;" (.ref o0)) (S_1 : Sta Z Z.heap "com/example/latchwork/latchwork/LockManager$Mode" "INTENTION_EXCLUSIVE" "Lcom/example/latchwork/latchwork/LockManager$Mode;" (.ref o1)) (S_2 : Sta Z Z.heap "com/example/latchwork/latchwork/LockManager$Mode" "SHARED" "Lcom/example/latchwork/latchwork/LockManager$Mode;" (.ref o2)) (S_3 : Sta Z Z.heap "com/example/latchwork/latchwork/LockManager$Mode" "SHARED_INTENTION_EXCLUSIVE" "Lcom/example/latchwork/latchwork/LockManager$Mode;" (.ref o3)) (S_4 : Sta Z Z.heap "com/example/latchwork/latchwork/LockManager$Mode" "UPDATE" "Lcom/example/latchwork/latchwork/LockManager$Mode;" (.ref o4)) (S_5 : Sta Z Z.heap "com/example/latchwork/latchwork/LockManager$Mode" "EXCLUSIVE" "Lcom/example/latchwork/latchwork/LockManager$Mode;" (.ref o5)) :
    Con l Z (⟨"com/example/latchwork/latchwork/ModeQueuedAsPinLaw", "mode", "(I)Lcom/example/latchwork/latchwork/LockManager$Mode;"⟩ : MethodName) method_3_code 1 (some (.object "com/example/latchwork/latchwork/LockManager$Mode")) ({ frames := 0, cells := 0, slots := 0, locals := 0 } : Room) #[(.int x1)] h0 (Q1 Z x1 o0 o1 o2 o3 o4 o5 h0 n0) := by
  refine Con.intro (plainFor_of_name pn0) (fun m => ef_1 m x1) ?_
  intro p e s m below meth c s₁ hx hby hml0 hZ hown hnm hret hlk X0 e0
  have hml : c.maxLocals = 1 := hml0
  have N0 := Fr.nil n0
  have Kp : Keep h0 h0 [] := Keep.refl h0 _
  show Go _ _ _ _ _ _ _ (s₁.setTop (mkF m 0 #[.val (.int x1)] []))
  refine Go.of (fun _ q => XS.iloadN X0.here hx rfl (hb hby d1_0) rfl q) ?_
  show Go _ _ _ _ _ _ _ (s₁.setTop (mkF m 1 #[.val (.int x1)] [(.int x1)]))
  by_cases c1 : x1 = (0 : Int32)
  · refine Go.of (fun _ q => XS.ifNo X0.here hx rfl (hb hby d1_1) rfl ((if0 _ _).trans (teq c1).2) q) ?_
    show Go _ _ _ _ _ _ _ (s₁.setTop (mkF m 4 #[.val (.int x1)] []))
    obtain ⟨T1, X1, e1, st1⟩ := getS2 X0 hx hZ hown (host := "") (Or.inl (hw _ (List.mem_of_getElem? (i := 5) rfl))) Via.refl e0 (Sta.ext Od.2 S_0) (g := (mkF m 4 #[.val (.int x1)] [])) rfl (hb hby d1_4)
    refine Go.of st1 ?_
    show Go _ _ _ _ _ _ _ (T1.setTop (mkF m 7 #[.val (.int x1)] [(.ref o0)]))
    refine Go.retA X1 hx hlk hret rfl rfl (hb hby d1_7) (by decide) (by decide) ?_
    rw [e1]
    exact ⟨(by unfold own_pick; rw [if_pos c1]), N0, rfl⟩
  · refine Go.of (fun _ q => XS.ifYes X0.here hx rfl (pc0 := 1) (pc' := 8) rfl (hb hby d1_1) rfl ((if0 _ _).trans (feq c1).2) (by decide) (by decide) q) ?_
    show Go _ _ _ _ _ _ _ (s₁.setTop (mkF m 8 #[.val (.int x1)] []))
    refine Go.of (fun _ q => XS.iloadN X0.here hx rfl (hb hby d1_8) rfl q) ?_
    show Go _ _ _ _ _ _ _ (s₁.setTop (mkF m 9 #[.val (.int x1)] [(.int x1)]))
    refine Go.of (fun _ q => XS.iconst X0.here hx rfl (hb hby d1_9) q) ?_
    show Go _ _ _ _ _ _ _ (s₁.setTop (mkF m 10 #[.val (.int x1)] [(.int (1 : Int32)), (.int x1)]))
    by_cases c10 : x1 = (1 : Int32)
    · refine Go.of (fun _ q => XS.icmpNo X0.here hx rfl (hb hby d1_10) rfl (teq c10).2 q) ?_
      show Go _ _ _ _ _ _ _ (s₁.setTop (mkF m 13 #[.val (.int x1)] []))
      obtain ⟨T2, X2, e2, st2⟩ := getS2 X0 hx hZ hown (host := "") (Or.inl (hw _ (List.mem_of_getElem? (i := 11) rfl))) Via.refl e0 (Sta.ext Od.2 S_1) (g := (mkF m 13 #[.val (.int x1)] [])) rfl (hb hby d1_13)
      refine Go.of st2 ?_
      show Go _ _ _ _ _ _ _ (T2.setTop (mkF m 16 #[.val (.int x1)] [(.ref o1)]))
      refine Go.retA X2 hx hlk hret rfl rfl (hb hby d1_16) (by decide) (by decide) ?_
      rw [e2]
      exact ⟨(by unfold own_pick; rw [if_neg c1, if_pos c10]), N0, rfl⟩
    · refine Go.of (fun _ q => XS.icmpYes X0.here hx rfl (pc0 := 10) (pc' := 17) rfl (hb hby d1_10) rfl (feq c10).2 (by decide) (by decide) q) ?_
      show Go _ _ _ _ _ _ _ (s₁.setTop (mkF m 17 #[.val (.int x1)] []))
      refine Go.of (fun _ q => XS.iloadN X0.here hx rfl (hb hby d1_17) rfl q) ?_
      show Go _ _ _ _ _ _ _ (s₁.setTop (mkF m 18 #[.val (.int x1)] [(.int x1)]))
      refine Go.of (fun _ q => XS.iconst X0.here hx rfl (hb hby d1_18) q) ?_
      show Go _ _ _ _ _ _ _ (s₁.setTop (mkF m 19 #[.val (.int x1)] [(.int (2 : Int32)), (.int x1)]))
      by_cases c19 : x1 = (2 : Int32)
      · refine Go.of (fun _ q => XS.icmpNo X0.here hx rfl (hb hby d1_19) rfl (teq c19).2 q) ?_
        show Go _ _ _ _ _ _ _ (s₁.setTop (mkF m 22 #[.val (.int x1)] []))
        obtain ⟨T3, X3, e3, st3⟩ := getS2 X0 hx hZ hown (host := "") (Or.inl (hw _ (List.mem_of_getElem? (i := 22) rfl))) Via.refl e0 (Sta.ext Od.2 S_2) (g := (mkF m 22 #[.val (.int x1)] [])) rfl (hb hby d1_22)
        refine Go.of st3 ?_
        show Go _ _ _ _ _ _ _ (T3.setTop (mkF m 25 #[.val (.int x1)] [(.ref o2)]))
        refine Go.retA X3 hx hlk hret rfl rfl (hb hby d1_25) (by decide) (by decide) ?_
        rw [e3]
        exact ⟨(by unfold own_pick; rw [if_neg c1, if_neg c10, if_pos c19]), N0, rfl⟩
      · refine Go.of (fun _ q => XS.icmpYes X0.here hx rfl (pc0 := 19) (pc' := 26) rfl (hb hby d1_19) rfl (feq c19).2 (by decide) (by decide) q) ?_
        show Go _ _ _ _ _ _ _ (s₁.setTop (mkF m 26 #[.val (.int x1)] []))
        refine Go.of (fun _ q => XS.iloadN X0.here hx rfl (hb hby d1_26) rfl q) ?_
        show Go _ _ _ _ _ _ _ (s₁.setTop (mkF m 27 #[.val (.int x1)] [(.int x1)]))
        refine Go.of (fun _ q => XS.iconst X0.here hx rfl (hb hby d1_27) q) ?_
        show Go _ _ _ _ _ _ _ (s₁.setTop (mkF m 28 #[.val (.int x1)] [(.int (3 : Int32)), (.int x1)]))
        by_cases c28 : x1 = (3 : Int32)
        · refine Go.of (fun _ q => XS.icmpNo X0.here hx rfl (hb hby d1_28) rfl (teq c28).2 q) ?_
          show Go _ _ _ _ _ _ _ (s₁.setTop (mkF m 31 #[.val (.int x1)] []))
          obtain ⟨T4, X4, e4, st4⟩ := getS2 X0 hx hZ hown (host := "") (Or.inl (hw _ (List.mem_of_getElem? (i := 20) rfl))) Via.refl e0 (Sta.ext Od.2 S_3) (g := (mkF m 31 #[.val (.int x1)] [])) rfl (hb hby d1_31)
          refine Go.of st4 ?_
          show Go _ _ _ _ _ _ _ (T4.setTop (mkF m 34 #[.val (.int x1)] [(.ref o3)]))
          refine Go.retA X4 hx hlk hret rfl rfl (hb hby d1_34) (by decide) (by decide) ?_
          rw [e4]
          exact ⟨(by unfold own_pick; rw [if_neg c1, if_neg c10, if_neg c19, if_pos c28]), N0, rfl⟩
        · refine Go.of (fun _ q => XS.icmpYes X0.here hx rfl (pc0 := 28) (pc' := 35) rfl (hb hby d1_28) rfl (feq c28).2 (by decide) (by decide) q) ?_
          show Go _ _ _ _ _ _ _ (s₁.setTop (mkF m 35 #[.val (.int x1)] []))
          refine Go.of (fun _ q => XS.iloadN X0.here hx rfl (hb hby d1_35) rfl q) ?_
          show Go _ _ _ _ _ _ _ (s₁.setTop (mkF m 36 #[.val (.int x1)] [(.int x1)]))
          refine Go.of (fun _ q => XS.iconst X0.here hx rfl (hb hby d1_36) q) ?_
          show Go _ _ _ _ _ _ _ (s₁.setTop (mkF m 37 #[.val (.int x1)] [(.int (4 : Int32)), (.int x1)]))
          by_cases c37 : x1 = (4 : Int32)
          · refine Go.of (fun _ q => XS.icmpNo X0.here hx rfl (hb hby d1_37) rfl (teq c37).2 q) ?_
            show Go _ _ _ _ _ _ _ (s₁.setTop (mkF m 40 #[.val (.int x1)] []))
            obtain ⟨T5, X5, e5, st5⟩ := getS2 X0 hx hZ hown (host := "") (Or.inl (hw _ (List.mem_of_getElem? (i := 26) rfl))) Via.refl e0 (Sta.ext Od.2 S_4) (g := (mkF m 40 #[.val (.int x1)] [])) rfl (hb hby d1_40)
            refine Go.of st5 ?_
            show Go _ _ _ _ _ _ _ (T5.setTop (mkF m 43 #[.val (.int x1)] [(.ref o4)]))
            refine Go.retA X5 hx hlk hret rfl rfl (hb hby d1_43) (by decide) (by decide) ?_
            rw [e5]
            exact ⟨(by unfold own_pick; rw [if_neg c1, if_neg c10, if_neg c19, if_neg c28, if_pos c37]), N0, rfl⟩
          · refine Go.of (fun _ q => XS.icmpYes X0.here hx rfl (pc0 := 37) (pc' := 44) rfl (hb hby d1_37) rfl (feq c37).2 (by decide) (by decide) q) ?_
            show Go _ _ _ _ _ _ _ (s₁.setTop (mkF m 44 #[.val (.int x1)] []))
            obtain ⟨T6, X6, e6, st6⟩ := getS2 X0 hx hZ hown (host := "") (Or.inl (hw _ (List.mem_of_getElem? (i := 24) rfl))) Via.refl e0 (Sta.ext Od.2 S_5) (g := (mkF m 44 #[.val (.int x1)] [])) rfl (hb hby d1_44)
            refine Go.of st6 ?_
            show Go _ _ _ _ _ _ _ (T6.setTop (mkF m 47 #[.val (.int x1)] [(.ref o5)]))
            refine Go.retA X6 hx hlk hret rfl rfl (hb hby d1_47) (by decide) (by decide) ?_
            rw [e6]
            exact ⟨(by unfold own_pick; rw [if_neg c1, if_neg c10, if_neg c19, if_neg c28, if_neg c37]), N0, rfl⟩
theorem d2_0 : decode method_4_code 0 = .ok (.iload_n 0, 1) := by decide +kernel
theorem d2_1 : decode method_4_code 1 = .ok (.ifCond .ne 7, 3) := by decide +kernel
theorem d2_4 : decode method_4_code 4 = .ok (.getstatic 27, 3) := by decide +kernel
theorem d2_7 : decode method_4_code 7 = .ok (.areturn, 1) := by decide +kernel
theorem d2_8 : decode method_4_code 8 = .ok (.iload_n 0, 1) := by decide +kernel
theorem d2_9 : decode method_4_code 9 = .ok (.iconst 1, 1) := by decide +kernel
theorem d2_10 : decode method_4_code 10 = .ok (.if_icmp .ne 7, 3) := by decide +kernel
theorem d2_13 : decode method_4_code 13 = .ok (.getstatic 27, 3) := by decide +kernel
theorem d2_16 : decode method_4_code 16 = .ok (.areturn, 1) := by decide +kernel
theorem d2_17 : decode method_4_code 17 = .ok (.iload_n 0, 1) := by decide +kernel
theorem d2_18 : decode method_4_code 18 = .ok (.iconst 2, 1) := by decide +kernel
theorem d2_19 : decode method_4_code 19 = .ok (.if_icmp .ne 7, 3) := by decide +kernel
theorem d2_22 : decode method_4_code 22 = .ok (.getstatic 30, 3) := by decide +kernel
theorem d2_25 : decode method_4_code 25 = .ok (.areturn, 1) := by decide +kernel
theorem d2_26 : decode method_4_code 26 = .ok (.iload_n 0, 1) := by decide +kernel
theorem d2_27 : decode method_4_code 27 = .ok (.iconst 3, 1) := by decide +kernel
theorem d2_28 : decode method_4_code 28 = .ok (.if_icmp .ne 7, 3) := by decide +kernel
theorem d2_31 : decode method_4_code 31 = .ok (.getstatic 33, 3) := by decide +kernel
theorem d2_34 : decode method_4_code 34 = .ok (.areturn, 1) := by decide +kernel
theorem d2_35 : decode method_4_code 35 = .ok (.iload_n 0, 1) := by decide +kernel
theorem d2_36 : decode method_4_code 36 = .ok (.iconst 4, 1) := by decide +kernel
theorem d2_37 : decode method_4_code 37 = .ok (.if_icmp .ne 7, 3) := by decide +kernel
theorem d2_40 : decode method_4_code 40 = .ok (.getstatic 36, 3) := by decide +kernel
theorem d2_43 : decode method_4_code 43 = .ok (.areturn, 1) := by decide +kernel
theorem d2_44 : decode method_4_code 44 = .ok (.getstatic 39, 3) := by decide +kernel
theorem d2_47 : decode method_4_code 47 = .ok (.areturn, 1) := by decide +kernel
theorem ef_2 (m : MethodId) (x1 : Int32) : entryFrame m #[(.int x1)] 1 = mkF m 0 #[.val (.int x1)] [] := by first | (simp [entryFrame, mkF, argsToLocals, Value.category]; done) | rfl
def Q2 (Z : State) (x1 : Int32) (o0 : Addr) (o1 : Addr) (o2 : Addr) (o3 : Addr) (o4 : Addr) (o5 : Addr) (h0 : Heap) (n0 : Nat) (v : Option Value) (h : Heap) (L : List Loc) : Prop := v = some (.ref (own_pick x1 o1 o1 o2 o3 o4 o5)) ∧ Fr n0 L ∧ h = h0
set_option maxRecDepth 65536 in
set_option maxHeartbeats 40000000 in
theorem rm2 (l : Launch) (Z : State) (a0 : Array Value) (hw : ∀ d ∈ tables_1, d.before a0 Z = true) (x1 : Int32) (o0 : Addr) (o1 : Addr) (o2 : Addr) (o3 : Addr) (o4 : Addr) (o5 : Addr) (h0 : Heap) (n0 : Nat) (Zs : n0 ≤ h0.size) (Od : Old Z n0 h0) (S_0 : Sta Z Z.heap "com/example/latchwork/latchwork/LockManager$Mode" "INTENTION_SHARED" "Lcom/example/latchwork/latchwork/LockManager$Mode;" (.ref o0)) (S_1 : Sta Z Z.heap "com/example/latchwork/latchwork/LockManager$Mode" "INTENTION_EXCLUSIVE" "Lcom/example/latchwork/latchwork/LockManager$Mode;" (.ref o1)) (S_2 : Sta Z Z.heap "com/example/latchwork/latchwork/LockManager$Mode" "SHARED" "Lcom/example/latchwork/latchwork/LockManager$Mode;" (.ref o2)) (S_3 : Sta Z Z.heap "com/example/latchwork/latchwork/LockManager$Mode" "SHARED_INTENTION_EXCLUSIVE" "Lcom/example/latchwork/latchwork/LockManager$Mode;" (.ref o3)) (S_4 : Sta Z Z.heap "com/example/latchwork/latchwork/LockManager$Mode" "UPDATE" "Lcom/example/latchwork/latchwork/LockManager$Mode;" (.ref o4)) (S_5 : Sta Z Z.heap "com/example/latchwork/latchwork/LockManager$Mode" "EXCLUSIVE" "Lcom/example/latchwork/latchwork/LockManager$Mode;" (.ref o5)) :
    Con l Z (⟨"com/example/latchwork/latchwork/ModeQueuedAsPinLaw", "expectedOf", "(I)Lcom/example/latchwork/latchwork/LockManager$Mode;"⟩ : MethodName) method_4_code 1 (some (.object "com/example/latchwork/latchwork/LockManager$Mode")) ({ frames := 0, cells := 0, slots := 0, locals := 0 } : Room) #[(.int x1)] h0 (Q2 Z x1 o0 o1 o2 o3 o4 o5 h0 n0) := by
  refine Con.intro (plainFor_of_name pn0) (fun m => ef_2 m x1) ?_
  intro p e s m below meth c s₁ hx hby hml0 hZ hown hnm hret hlk X0 e0
  have hml : c.maxLocals = 1 := hml0
  have N0 := Fr.nil n0
  have Kp : Keep h0 h0 [] := Keep.refl h0 _
  show Go _ _ _ _ _ _ _ (s₁.setTop (mkF m 0 #[.val (.int x1)] []))
  refine Go.of (fun _ q => XS.iloadN X0.here hx rfl (hb hby d2_0) rfl q) ?_
  show Go _ _ _ _ _ _ _ (s₁.setTop (mkF m 1 #[.val (.int x1)] [(.int x1)]))
  by_cases c1 : x1 = (0 : Int32)
  · refine Go.of (fun _ q => XS.ifNo X0.here hx rfl (hb hby d2_1) rfl ((if0 _ _).trans (teq c1).2) q) ?_
    show Go _ _ _ _ _ _ _ (s₁.setTop (mkF m 4 #[.val (.int x1)] []))
    obtain ⟨T1, X1, e1, st1⟩ := getS2 X0 hx hZ hown (host := "") (Or.inl (hw _ (List.mem_of_getElem? (i := 11) rfl))) Via.refl e0 (Sta.ext Od.2 S_1) (g := (mkF m 4 #[.val (.int x1)] [])) rfl (hb hby d2_4)
    refine Go.of st1 ?_
    show Go _ _ _ _ _ _ _ (T1.setTop (mkF m 7 #[.val (.int x1)] [(.ref o1)]))
    refine Go.retA X1 hx hlk hret rfl rfl (hb hby d2_7) (by decide) (by decide) ?_
    rw [e1]
    exact ⟨(by unfold own_pick; rw [if_pos c1]), N0, rfl⟩
  · refine Go.of (fun _ q => XS.ifYes X0.here hx rfl (pc0 := 1) (pc' := 8) rfl (hb hby d2_1) rfl ((if0 _ _).trans (feq c1).2) (by decide) (by decide) q) ?_
    show Go _ _ _ _ _ _ _ (s₁.setTop (mkF m 8 #[.val (.int x1)] []))
    refine Go.of (fun _ q => XS.iloadN X0.here hx rfl (hb hby d2_8) rfl q) ?_
    show Go _ _ _ _ _ _ _ (s₁.setTop (mkF m 9 #[.val (.int x1)] [(.int x1)]))
    refine Go.of (fun _ q => XS.iconst X0.here hx rfl (hb hby d2_9) q) ?_
    show Go _ _ _ _ _ _ _ (s₁.setTop (mkF m 10 #[.val (.int x1)] [(.int (1 : Int32)), (.int x1)]))
    by_cases c10 : x1 = (1 : Int32)
    · refine Go.of (fun _ q => XS.icmpNo X0.here hx rfl (hb hby d2_10) rfl (teq c10).2 q) ?_
      show Go _ _ _ _ _ _ _ (s₁.setTop (mkF m 13 #[.val (.int x1)] []))
      obtain ⟨T2, X2, e2, st2⟩ := getS2 X0 hx hZ hown (host := "") (Or.inl (hw _ (List.mem_of_getElem? (i := 11) rfl))) Via.refl e0 (Sta.ext Od.2 S_1) (g := (mkF m 13 #[.val (.int x1)] [])) rfl (hb hby d2_13)
      refine Go.of st2 ?_
      show Go _ _ _ _ _ _ _ (T2.setTop (mkF m 16 #[.val (.int x1)] [(.ref o1)]))
      refine Go.retA X2 hx hlk hret rfl rfl (hb hby d2_16) (by decide) (by decide) ?_
      rw [e2]
      exact ⟨(by unfold own_pick; rw [if_neg c1, if_pos c10]), N0, rfl⟩
    · refine Go.of (fun _ q => XS.icmpYes X0.here hx rfl (pc0 := 10) (pc' := 17) rfl (hb hby d2_10) rfl (feq c10).2 (by decide) (by decide) q) ?_
      show Go _ _ _ _ _ _ _ (s₁.setTop (mkF m 17 #[.val (.int x1)] []))
      refine Go.of (fun _ q => XS.iloadN X0.here hx rfl (hb hby d2_17) rfl q) ?_
      show Go _ _ _ _ _ _ _ (s₁.setTop (mkF m 18 #[.val (.int x1)] [(.int x1)]))
      refine Go.of (fun _ q => XS.iconst X0.here hx rfl (hb hby d2_18) q) ?_
      show Go _ _ _ _ _ _ _ (s₁.setTop (mkF m 19 #[.val (.int x1)] [(.int (2 : Int32)), (.int x1)]))
      by_cases c19 : x1 = (2 : Int32)
      · refine Go.of (fun _ q => XS.icmpNo X0.here hx rfl (hb hby d2_19) rfl (teq c19).2 q) ?_
        show Go _ _ _ _ _ _ _ (s₁.setTop (mkF m 22 #[.val (.int x1)] []))
        obtain ⟨T3, X3, e3, st3⟩ := getS2 X0 hx hZ hown (host := "") (Or.inl (hw _ (List.mem_of_getElem? (i := 22) rfl))) Via.refl e0 (Sta.ext Od.2 S_2) (g := (mkF m 22 #[.val (.int x1)] [])) rfl (hb hby d2_22)
        refine Go.of st3 ?_
        show Go _ _ _ _ _ _ _ (T3.setTop (mkF m 25 #[.val (.int x1)] [(.ref o2)]))
        refine Go.retA X3 hx hlk hret rfl rfl (hb hby d2_25) (by decide) (by decide) ?_
        rw [e3]
        exact ⟨(by unfold own_pick; rw [if_neg c1, if_neg c10, if_pos c19]), N0, rfl⟩
      · refine Go.of (fun _ q => XS.icmpYes X0.here hx rfl (pc0 := 19) (pc' := 26) rfl (hb hby d2_19) rfl (feq c19).2 (by decide) (by decide) q) ?_
        show Go _ _ _ _ _ _ _ (s₁.setTop (mkF m 26 #[.val (.int x1)] []))
        refine Go.of (fun _ q => XS.iloadN X0.here hx rfl (hb hby d2_26) rfl q) ?_
        show Go _ _ _ _ _ _ _ (s₁.setTop (mkF m 27 #[.val (.int x1)] [(.int x1)]))
        refine Go.of (fun _ q => XS.iconst X0.here hx rfl (hb hby d2_27) q) ?_
        show Go _ _ _ _ _ _ _ (s₁.setTop (mkF m 28 #[.val (.int x1)] [(.int (3 : Int32)), (.int x1)]))
        by_cases c28 : x1 = (3 : Int32)
        · refine Go.of (fun _ q => XS.icmpNo X0.here hx rfl (hb hby d2_28) rfl (teq c28).2 q) ?_
          show Go _ _ _ _ _ _ _ (s₁.setTop (mkF m 31 #[.val (.int x1)] []))
          obtain ⟨T4, X4, e4, st4⟩ := getS2 X0 hx hZ hown (host := "") (Or.inl (hw _ (List.mem_of_getElem? (i := 20) rfl))) Via.refl e0 (Sta.ext Od.2 S_3) (g := (mkF m 31 #[.val (.int x1)] [])) rfl (hb hby d2_31)
          refine Go.of st4 ?_
          show Go _ _ _ _ _ _ _ (T4.setTop (mkF m 34 #[.val (.int x1)] [(.ref o3)]))
          refine Go.retA X4 hx hlk hret rfl rfl (hb hby d2_34) (by decide) (by decide) ?_
          rw [e4]
          exact ⟨(by unfold own_pick; rw [if_neg c1, if_neg c10, if_neg c19, if_pos c28]), N0, rfl⟩
        · refine Go.of (fun _ q => XS.icmpYes X0.here hx rfl (pc0 := 28) (pc' := 35) rfl (hb hby d2_28) rfl (feq c28).2 (by decide) (by decide) q) ?_
          show Go _ _ _ _ _ _ _ (s₁.setTop (mkF m 35 #[.val (.int x1)] []))
          refine Go.of (fun _ q => XS.iloadN X0.here hx rfl (hb hby d2_35) rfl q) ?_
          show Go _ _ _ _ _ _ _ (s₁.setTop (mkF m 36 #[.val (.int x1)] [(.int x1)]))
          refine Go.of (fun _ q => XS.iconst X0.here hx rfl (hb hby d2_36) q) ?_
          show Go _ _ _ _ _ _ _ (s₁.setTop (mkF m 37 #[.val (.int x1)] [(.int (4 : Int32)), (.int x1)]))
          by_cases c37 : x1 = (4 : Int32)
          · refine Go.of (fun _ q => XS.icmpNo X0.here hx rfl (hb hby d2_37) rfl (teq c37).2 q) ?_
            show Go _ _ _ _ _ _ _ (s₁.setTop (mkF m 40 #[.val (.int x1)] []))
            obtain ⟨T5, X5, e5, st5⟩ := getS2 X0 hx hZ hown (host := "") (Or.inl (hw _ (List.mem_of_getElem? (i := 26) rfl))) Via.refl e0 (Sta.ext Od.2 S_4) (g := (mkF m 40 #[.val (.int x1)] [])) rfl (hb hby d2_40)
            refine Go.of st5 ?_
            show Go _ _ _ _ _ _ _ (T5.setTop (mkF m 43 #[.val (.int x1)] [(.ref o4)]))
            refine Go.retA X5 hx hlk hret rfl rfl (hb hby d2_43) (by decide) (by decide) ?_
            rw [e5]
            exact ⟨(by unfold own_pick; rw [if_neg c1, if_neg c10, if_neg c19, if_neg c28, if_pos c37]), N0, rfl⟩
          · refine Go.of (fun _ q => XS.icmpYes X0.here hx rfl (pc0 := 37) (pc' := 44) rfl (hb hby d2_37) rfl (feq c37).2 (by decide) (by decide) q) ?_
            show Go _ _ _ _ _ _ _ (s₁.setTop (mkF m 44 #[.val (.int x1)] []))
            obtain ⟨T6, X6, e6, st6⟩ := getS2 X0 hx hZ hown (host := "") (Or.inl (hw _ (List.mem_of_getElem? (i := 24) rfl))) Via.refl e0 (Sta.ext Od.2 S_5) (g := (mkF m 44 #[.val (.int x1)] [])) rfl (hb hby d2_44)
            refine Go.of st6 ?_
            show Go _ _ _ _ _ _ _ (T6.setTop (mkF m 47 #[.val (.int x1)] [(.ref o5)]))
            refine Go.retA X6 hx hlk hret rfl rfl (hb hby d2_47) (by decide) (by decide) ?_
            rw [e6]
            exact ⟨(by unfold own_pick; rw [if_neg c1, if_neg c10, if_neg c19, if_neg c28, if_neg c37]), N0, rfl⟩
theorem d3_0 : decode prog_30_method_7_code 0 = .ok (.aload_n 0, 1) := by decide +kernel
theorem d3_1 : decode prog_30_method_7_code 1 = .ok (.getstatic 3, 3) := by decide +kernel
theorem d3_4 : decode prog_30_method_7_code 4 = .ok (.if_acmp .ne 9, 3) := by decide +kernel
theorem d3_7 : decode prog_30_method_7_code 7 = .ok (.getstatic 7, 3) := by decide +kernel
theorem d3_10 : decode prog_30_method_7_code 10 = .ok (.goto 4, 3) := by decide +kernel
theorem d3_13 : decode prog_30_method_7_code 13 = .ok (.aload_n 0, 1) := by decide +kernel
theorem d3_14 : decode prog_30_method_7_code 14 = .ok (.areturn, 1) := by decide +kernel
theorem pn1 : plainName "com/example/latchwork/latchwork/LockManager$Mode" = true := by first | (simp [plainName, overriddenIn]; done) | decide +kernel
theorem ef_3 (m : MethodId) (a : Addr) : entryFrame m #[(.ref a)] 1 = mkF m 0 #[.val (.ref a)] [] := by first | (simp [entryFrame, mkF, argsToLocals, Value.category]; done) | rfl
def Q3 (Z : State) (a : Addr) (o0 : Addr) (o1 : Addr) (h0 : Heap) (n0 : Nat) (v : Option Value) (h : Heap) (L : List Loc) : Prop := v = some (.ref (if a = o0 then o1 else a)) ∧ Fr n0 L ∧ h = h0
set_option maxRecDepth 65536 in
set_option maxHeartbeats 40000000 in
theorem rm3 (l : Launch) (Z : State) (a0 : Array Value) (hw : ∀ d ∈ tables_1, d.before a0 Z = true) (a : Addr) (o0 : Addr) (o1 : Addr) (h0 : Heap) (n0 : Nat) (Zs : n0 ≤ h0.size) (Od : Old Z n0 h0) (S_0 : Sta Z Z.heap "com/example/latchwork/latchwork/LockManager$Mode" "INTENTION_SHARED" "Lcom/example/latchwork/latchwork/LockManager$Mode;" (.ref o0)) (S_1 : Sta Z Z.heap "com/example/latchwork/latchwork/LockManager$Mode" "INTENTION_EXCLUSIVE" "Lcom/example/latchwork/latchwork/LockManager$Mode;" (.ref o1)) :
    Con l Z (⟨"com/example/latchwork/latchwork/LockManager$Mode", "queuedAs", "()Lcom/example/latchwork/latchwork/LockManager$Mode;"⟩ : MethodName) prog_30_method_7_code 1 (some (.object "com/example/latchwork/latchwork/LockManager$Mode")) ({ frames := 0, cells := 0, slots := 0, locals := 0 } : Room) #[(.ref a)] h0 (Q3 Z a o0 o1 h0 n0) := by
  refine Con.intro (plainFor_of_name pn1) (fun m => ef_3 m a) ?_
  intro p e s m below meth c s₁ hx hby hml0 hZ hown hnm hret hlk X0 e0
  have hml : c.maxLocals = 1 := hml0
  have N0 := Fr.nil n0
  have Kp : Keep h0 h0 [] := Keep.refl h0 _
  show Go _ _ _ _ _ _ _ (s₁.setTop (mkF m 0 #[.val (.ref a)] []))
  refine Go.of (fun _ q => XS.aloadN X0.here hx rfl (hb hby d3_0) rfl rfl q) ?_
  show Go _ _ _ _ _ _ _ (s₁.setTop (mkF m 1 #[.val (.ref a)] [(.ref a)]))
  obtain ⟨T1, X1, e1, st1⟩ := getS2 X0 hx hZ hown (host := "") (Or.inl (hw _ (List.mem_of_getElem? (i := 18) rfl))) Via.refl e0 (Sta.ext Od.2 S_0) (g := (mkF m 1 #[.val (.ref a)] [(.ref a)])) rfl (hb hby d3_1)
  refine Go.of st1 ?_
  show Go _ _ _ _ _ _ _ (T1.setTop (mkF m 4 #[.val (.ref a)] [(.ref o0), (.ref a)]))
  by_cases c4 : a = o0
  · refine Go.of (fun _ q => Jvm.RoadKit.acmp (g := (mkF m 4 #[.val (.ref a)] [(.ref o0), (.ref a)])) X1 hx rfl rfl rfl (pc0 := 4) (pc' := 7) (same := true) rfl (hb hby d3_4) rfl (decide_eq_true (congrArg Value.ref c4)) (by decide) (by decide) q) ?_
    show Go _ _ _ _ _ _ _ (T1.setTop (mkF m 7 #[.val (.ref a)] []))
    obtain ⟨T2, X2, e2, st2⟩ := getS2 X1 hx hZ hown (host := "") (Or.inl (hw _ (List.mem_of_getElem? (i := 19) rfl))) Via.refl e1 (Sta.ext Od.2 S_1) (g := (mkF m 7 #[.val (.ref a)] [])) rfl (hb hby d3_7)
    refine Go.of st2 ?_
    show Go _ _ _ _ _ _ _ (T2.setTop (mkF m 10 #[.val (.ref a)] [(.ref o1)]))
    refine Go.of (fun _ q => XS.goto X2.here hx rfl (pc0 := 10) (pc' := 14) rfl (hb hby d3_10) (by decide) (by decide) q) ?_
    show Go _ _ _ _ _ _ _ (T2.setTop (mkF m 14 #[.val (.ref a)] [(.ref o1)]))
    refine Go.retA X2 hx hlk hret rfl rfl (hb hby d3_14) (by decide) (by decide) ?_
    rw [e2]
    exact ⟨(by rw [if_pos c4]), N0, rfl⟩
  · refine Go.of (fun _ q => Jvm.RoadKit.acmp (g := (mkF m 4 #[.val (.ref a)] [(.ref o0), (.ref a)])) X1 hx rfl rfl rfl (pc0 := 4) (pc' := 13) (same := false) rfl (hb hby d3_4) rfl (decide_eq_false fun q => c4 (Value.ref.inj q)) (by decide) (by decide) q) ?_
    show Go _ _ _ _ _ _ _ (T1.setTop (mkF m 13 #[.val (.ref a)] []))
    refine Go.of (fun _ q => XS.aloadN X1.here hx rfl (hb hby d3_13) rfl rfl q) ?_
    show Go _ _ _ _ _ _ _ (T1.setTop (mkF m 14 #[.val (.ref a)] [(.ref a)]))
    refine Go.retA X1 hx hlk hret rfl rfl (hb hby d3_14) (by decide) (by decide) ?_
    rw [e1]
    exact ⟨(by rw [if_neg c4]), N0, rfl⟩
theorem pd0 : parseMethodDescriptor "(I)Lcom/example/latchwork/latchwork/LockManager$Mode;" = some ⟨[.int], some (.object "com/example/latchwork/latchwork/LockManager$Mode")⟩ := by decide +kernel
theorem pd1 : parseMethodDescriptor "()Lcom/example/latchwork/latchwork/LockManager$Mode;" = some ⟨[], some (.object "com/example/latchwork/latchwork/LockManager$Mode")⟩ := by decide +kernel
theorem ef_0 (m : MethodId) (x1 : Int32) : entryFrame m #[(.int x1)] maxLocals = mkF m 0 #[.val (.int x1), .unset, .unset, .unset, .unset] [] := by first | (simp [entryFrame, mkF, argsToLocals, Value.category, maxLocals]; done) | rfl
def Q0 (Z : State) (x1 : Int32) (o0 : Addr) (o1 : Addr) (o2 : Addr) (o3 : Addr) (o4 : Addr) (o5 : Addr) (h0 : Heap) (n0 : Nat) (v : Option Value) (h : Heap) (L : List Loc) : Prop := v = some (.int (1 : Int32)) ∧ Fr n0 L
set_option maxRecDepth 65536 in
set_option maxHeartbeats 40000000 in
theorem rm0 (l : Launch) (Z : State) (a0 : Array Value) (hw : ∀ d ∈ tables_1, d.before a0 Z = true) (x1 : Int32) (o0 : Addr) (o1 : Addr) (o2 : Addr) (o3 : Addr) (o4 : Addr) (o5 : Addr) (h0 : Heap) (n0 : Nat) (Zs : n0 ≤ h0.size) (Od : Old Z n0 h0) (S_0 : Sta Z Z.heap "com/example/latchwork/latchwork/LockManager$Mode" "INTENTION_SHARED" "Lcom/example/latchwork/latchwork/LockManager$Mode;" (.ref o0)) (S_1 : Sta Z Z.heap "com/example/latchwork/latchwork/LockManager$Mode" "INTENTION_EXCLUSIVE" "Lcom/example/latchwork/latchwork/LockManager$Mode;" (.ref o1)) (S_2 : Sta Z Z.heap "com/example/latchwork/latchwork/LockManager$Mode" "SHARED" "Lcom/example/latchwork/latchwork/LockManager$Mode;" (.ref o2)) (S_3 : Sta Z Z.heap "com/example/latchwork/latchwork/LockManager$Mode" "SHARED_INTENTION_EXCLUSIVE" "Lcom/example/latchwork/latchwork/LockManager$Mode;" (.ref o3)) (S_4 : Sta Z Z.heap "com/example/latchwork/latchwork/LockManager$Mode" "UPDATE" "Lcom/example/latchwork/latchwork/LockManager$Mode;" (.ref o4)) (S_5 : Sta Z Z.heap "com/example/latchwork/latchwork/LockManager$Mode" "EXCLUSIVE" "Lcom/example/latchwork/latchwork/LockManager$Mode;" (.ref o5)) (E_0 : Exa Z h0 o0 "com/example/latchwork/latchwork/LockManager$Mode") (E_1 : Exa Z h0 o1 "com/example/latchwork/latchwork/LockManager$Mode") (E_2 : Exa Z h0 o2 "com/example/latchwork/latchwork/LockManager$Mode") (E_3 : Exa Z h0 o3 "com/example/latchwork/latchwork/LockManager$Mode") (E_4 : Exa Z h0 o4 "com/example/latchwork/latchwork/LockManager$Mode") (E_5 : Exa Z h0 o5 "com/example/latchwork/latchwork/LockManager$Mode") (n_1 : o1 ≠ o0) (n_2 : o2 ≠ o0) (n_3 : o3 ≠ o0) (n_4 : o4 ≠ o0) (n_5 : o5 ≠ o0) :
    Con l Z x code maxLocals ret room_1 #[(.int x1)] h0 (Q0 Z x1 o0 o1 o2 o3 o4 o5 h0 n0) := by
  refine Con.intro (plainFor_of_name pn0) (fun m => ef_0 m x1) ?_
  intro p e s m below meth c s₁ hx hby hml0 hZ hown hnm hret hlk X0 e0
  have hml : c.maxLocals = 5 := hml0
  have N0 := Fr.nil n0
  have Kp : Keep h0 h0 [] := Keep.refl h0 _
  show Go _ _ _ _ _ _ _ (s₁.setTop (mkF m 0 #[.val (.int x1), .unset, .unset, .unset, .unset] []))
  refine Go.of (fun _ q => XS.iloadN X0.here hx rfl (hb hby at_0) rfl q) ?_
  show Go _ _ _ _ _ _ _ (s₁.setTop (mkF m 1 #[.val (.int x1), .unset, .unset, .unset, .unset] [(.int x1)]))
  refine Go.of (fun _ q => X0.ldcInt hx hown (mvT hZ (hw _ (List.mem_of_getElem? (i := 0) rfl))) (g := (mkF m 1 #[.val (.int x1), .unset, .unset, .unset, .unset] [(.int x1)])) rfl (hb hby at_1) _ q) ?_
  show Go _ _ _ _ _ _ _ (s₁.setTop (mkF m 3 #[.val (.int x1), .unset, .unset, .unset, .unset] [(.int (2147483647 : Int32)), (.int x1)]))
  refine Go.of (fun _ q => XS.iand X0.here hx rfl (hb hby at_3) rfl q) ?_
  show Go _ _ _ _ _ _ _ (s₁.setTop (mkF m 4 #[.val (.int x1), .unset, .unset, .unset, .unset] [(.int (x1 &&& (2147483647 : Int32)))]))
  refine Go.of (fun _ q => XS.bipush X0.here hx rfl (hb hby at_4) q) ?_
  show Go _ _ _ _ _ _ _ (s₁.setTop (mkF m 6 #[.val (.int x1), .unset, .unset, .unset, .unset] [(.int (6 : Int32)), (.int (x1 &&& (2147483647 : Int32)))]))
  refine Go.of (fun _ q => iremM X0 hx rfl (hb hby at_6) rfl (by decide) q) ?_
  show Go _ _ _ _ _ _ _ (s₁.setTop (mkF m 7 #[.val (.int x1), .unset, .unset, .unset, .unset] [(.int ((x1 &&& (2147483647 : Int32)) % (6 : Int32)))]))
  refine Go.of (fun _ q => XS.istoreN X0.here hx rfl (hb hby at_7) rfl (l' := #[.val (.int x1), .val (.int ((x1 &&& (2147483647 : Int32)) % (6 : Int32))), .unset, .unset, .unset]) rfl q) ?_
  obtain ⟨v1, hv1⟩ : ∃ z, z = ((x1 &&& (2147483647 : Int32)) % (6 : Int32)) := ⟨_, rfl⟩
  rw [← hv1]
  show Go _ _ _ _ _ _ _ (s₁.setTop (mkF m 8 #[.val (.int x1), .val (.int v1), .unset, .unset, .unset] []))
  refine Go.of (fun _ q => XS.iloadN X0.here hx rfl (hb hby at_8) rfl q) ?_
  show Go _ _ _ _ _ _ _ (s₁.setTop (mkF m 9 #[.val (.int x1), .val (.int v1), .unset, .unset, .unset] [(.int v1)]))
  refine Go.static X0 hx hZ (y := (⟨"com/example/latchwork/latchwork/ModeQueuedAsPinLaw", "mode", "(I)Lcom/example/latchwork/latchwork/LockManager$Mode;"⟩ : MethodName)) (argsL := [(.int v1)]) hown (hw _ (List.mem_of_getElem? (i := 1) rfl)) (hw _ (List.mem_of_getElem? (i := 2) rfl)) (hw _ (List.mem_of_getElem? (i := 3) rfl)) (hw _ (List.mem_of_getElem? (i := 4) rfl)) (by decide) 0 e0 (rm1 l Z a0 hw v1 o0 o1 o2 o3 o4 o5 h0 n0 Zs Od S_0 S_1 S_2 S_3 S_4 S_5) (by decide) (by decide) (by decide) (by decide) (g := (mkF m 9 #[.val (.int x1), .val (.int v1), .unset, .unset, .unset] [(.int v1)])) rfl (by rw [hml]; rfl) (rest := []) (lenOf pd0 rfl) rfl (by show 2 * 0 + _ ≤ _; exact Nat.le_of_eq rfl) (hb hby at_9) ?_
  intro T1 v1 L1 X1 q1
  obtain ⟨rfl, Nq1, e1⟩ := q1
  have N1 := Fr.app N0 Nq1
  have E_m : Exa Z h0 (own_pick v1 o0 o1 o2 o3 o4 o5) "com/example/latchwork/latchwork/LockManager$Mode" := own_all (fun a => Exa Z h0 a "com/example/latchwork/latchwork/LockManager$Mode") _ _ _ _ _ _ _ E_0 E_1 E_2 E_3 E_4 E_5
  show Go _ _ _ _ _ _ _ (T1.setTop (mkF m 12 #[.val (.int x1), .val (.int v1), .unset, .unset, .unset] [(.ref (own_pick v1 o0 o1 o2 o3 o4 o5))]))
  refine Go.of (fun _ q => XS.astoreN X1.here hx rfl (hb hby at_12) rfl rfl (l' := #[.val (.int x1), .val (.int v1), .val (.ref (own_pick v1 o0 o1 o2 o3 o4 o5)), .unset, .unset]) rfl q) ?_
  show Go _ _ _ _ _ _ _ (T1.setTop (mkF m 13 #[.val (.int x1), .val (.int v1), .val (.ref (own_pick v1 o0 o1 o2 o3 o4 o5)), .unset, .unset] []))
  refine Go.of (fun _ q => XS.iloadN X1.here hx rfl (hb hby at_13) rfl q) ?_
  show Go _ _ _ _ _ _ _ (T1.setTop (mkF m 14 #[.val (.int x1), .val (.int v1), .val (.ref (own_pick v1 o0 o1 o2 o3 o4 o5)), .unset, .unset] [(.int v1)]))
  refine Go.static X1 hx hZ (y := (⟨"com/example/latchwork/latchwork/ModeQueuedAsPinLaw", "expectedOf", "(I)Lcom/example/latchwork/latchwork/LockManager$Mode;"⟩ : MethodName)) (argsL := [(.int v1)]) hown (hw _ (List.mem_of_getElem? (i := 8) rfl)) (hw _ (List.mem_of_getElem? (i := 9) rfl)) (hw _ (List.mem_of_getElem? (i := 3) rfl)) (hw _ (List.mem_of_getElem? (i := 10) rfl)) (by decide) 0 e1 (rm2 l Z a0 hw v1 o0 o1 o2 o3 o4 o5 h0 n0 Zs Od S_0 S_1 S_2 S_3 S_4 S_5) (by decide) (by decide) (by decide) (by decide) (g := (mkF m 14 #[.val (.int x1), .val (.int v1), .val (.ref (own_pick v1 o0 o1 o2 o3 o4 o5)), .unset, .unset] [(.int v1)])) rfl (by rw [hml]; rfl) (rest := []) (lenOf pd0 rfl) rfl (by show 2 * 0 + _ ≤ _; exact Nat.le_of_eq rfl) (hb hby at_14) ?_
  intro T2 v2 L2 X2 q2
  obtain ⟨rfl, Nq2, e2⟩ := q2
  have N2 := Fr.app N1 Nq2
  show Go _ _ _ _ _ _ _ (T2.setTop (mkF m 17 #[.val (.int x1), .val (.int v1), .val (.ref (own_pick v1 o0 o1 o2 o3 o4 o5)), .unset, .unset] [(.ref (own_pick v1 o1 o1 o2 o3 o4 o5))]))
  refine Go.of (fun _ q => XS.astoreN X2.here hx rfl (hb hby at_17) rfl rfl (l' := #[.val (.int x1), .val (.int v1), .val (.ref (own_pick v1 o0 o1 o2 o3 o4 o5)), .val (.ref (own_pick v1 o1 o1 o2 o3 o4 o5)), .unset]) rfl q) ?_
  show Go _ _ _ _ _ _ _ (T2.setTop (mkF m 18 #[.val (.int x1), .val (.int v1), .val (.ref (own_pick v1 o0 o1 o2 o3 o4 o5)), .val (.ref (own_pick v1 o1 o1 o2 o3 o4 o5)), .unset] []))
  refine Go.of (fun _ q => XS.aloadN X2.here hx rfl (hb hby at_18) rfl rfl q) ?_
  show Go _ _ _ _ _ _ _ (T2.setTop (mkF m 19 #[.val (.int x1), .val (.int v1), .val (.ref (own_pick v1 o0 o1 o2 o3 o4 o5)), .val (.ref (own_pick v1 o1 o1 o2 o3 o4 o5)), .unset] [(.ref (own_pick v1 o0 o1 o2 o3 o4 o5))]))
  refine Go.virtual X2 hx hZ (y := (⟨"com/example/latchwork/latchwork/LockManager$Mode", "queuedAs", "()Lcom/example/latchwork/latchwork/LockManager$Mode;"⟩ : MethodName)) (z := (⟨"com/example/latchwork/latchwork/LockManager$Mode", "queuedAs", "()Lcom/example/latchwork/latchwork/LockManager$Mode;"⟩ : MethodName)) (a := (own_pick v1 o0 o1 o2 o3 o4 o5)) (argsL := []) hown (hw _ (List.mem_of_getElem? (i := 13) rfl)) (hw _ (List.mem_of_getElem? (i := 14) rfl)) (notFace_of_selects (args := #[]) (mvT hZ (hw _ (List.mem_of_getElem? (i := 16) rfl)))) (hw _ (List.mem_of_getElem? (i := 16) rfl)) (hw _ (List.mem_of_getElem? (i := 15) rfl)) (hw _ (List.mem_of_getElem? (i := 6) rfl)) (hw _ (List.mem_of_getElem? (i := 17) rfl)) (by decide) 0 e2 E_m (rm3 l Z a0 hw (own_pick v1 o0 o1 o2 o3 o4 o5) o0 o1 h0 n0 Zs Od S_0 S_1) (by decide) (by decide) (by decide) (by decide) (g := (mkF m 19 #[.val (.int x1), .val (.int v1), .val (.ref (own_pick v1 o0 o1 o2 o3 o4 o5)), .val (.ref (own_pick v1 o1 o1 o2 o3 o4 o5)), .unset] [(.ref (own_pick v1 o0 o1 o2 o3 o4 o5))])) rfl (by rw [hml]; rfl) (rest := []) (lenOf pd1 rfl) rfl (by show 2 * 0 + _ ≤ _; exact Nat.le_of_eq rfl) (hb hby at_19) ?_
  intro T3 v3 L3 X3 q3
  obtain ⟨rfl, Nq3, e3⟩ := q3
  have N3 := Fr.app N2 Nq3
  have E_q : Exa Z h0 (if (own_pick v1 o0 o1 o2 o3 o4 o5) = o0 then o1 else (own_pick v1 o0 o1 o2 o3 o4 o5)) "com/example/latchwork/latchwork/LockManager$Mode" := by rw [(own_q v1 o0 o1 o2 o3 o4 o5 n_1 n_2 n_3 n_4 n_5).1]; exact own_all (fun a => Exa Z h0 a "com/example/latchwork/latchwork/LockManager$Mode") _ _ _ _ _ _ _ E_1 E_1 E_2 E_3 E_4 E_5
  show Go _ _ _ _ _ _ _ (T3.setTop (mkF m 22 #[.val (.int x1), .val (.int v1), .val (.ref (own_pick v1 o0 o1 o2 o3 o4 o5)), .val (.ref (own_pick v1 o1 o1 o2 o3 o4 o5)), .unset] [(.ref (if (own_pick v1 o0 o1 o2 o3 o4 o5) = o0 then o1 else (own_pick v1 o0 o1 o2 o3 o4 o5)))]))
  refine Go.of (fun _ q => XS.astore X3.here hx rfl (hb hby at_22) rfl rfl (l' := #[.val (.int x1), .val (.int v1), .val (.ref (own_pick v1 o0 o1 o2 o3 o4 o5)), .val (.ref (own_pick v1 o1 o1 o2 o3 o4 o5)), .val (.ref (if (own_pick v1 o0 o1 o2 o3 o4 o5) = o0 then o1 else (own_pick v1 o0 o1 o2 o3 o4 o5)))]) rfl q) ?_
  show Go _ _ _ _ _ _ _ (T3.setTop (mkF m 24 #[.val (.int x1), .val (.int v1), .val (.ref (own_pick v1 o0 o1 o2 o3 o4 o5)), .val (.ref (own_pick v1 o1 o1 o2 o3 o4 o5)), .val (.ref (if (own_pick v1 o0 o1 o2 o3 o4 o5) = o0 then o1 else (own_pick v1 o0 o1 o2 o3 o4 o5)))] []))
  refine Go.of (fun _ q => XS.aload X3.here hx rfl (hb hby at_24) rfl rfl q) ?_
  show Go _ _ _ _ _ _ _ (T3.setTop (mkF m 26 #[.val (.int x1), .val (.int v1), .val (.ref (own_pick v1 o0 o1 o2 o3 o4 o5)), .val (.ref (own_pick v1 o1 o1 o2 o3 o4 o5)), .val (.ref (if (own_pick v1 o0 o1 o2 o3 o4 o5) = o0 then o1 else (own_pick v1 o0 o1 o2 o3 o4 o5)))] [(.ref (if (own_pick v1 o0 o1 o2 o3 o4 o5) = o0 then o1 else (own_pick v1 o0 o1 o2 o3 o4 o5)))]))
  refine Go.of (fun _ q => XS.aloadN X3.here hx rfl (hb hby at_26) rfl rfl q) ?_
  show Go _ _ _ _ _ _ _ (T3.setTop (mkF m 27 #[.val (.int x1), .val (.int v1), .val (.ref (own_pick v1 o0 o1 o2 o3 o4 o5)), .val (.ref (own_pick v1 o1 o1 o2 o3 o4 o5)), .val (.ref (if (own_pick v1 o0 o1 o2 o3 o4 o5) = o0 then o1 else (own_pick v1 o0 o1 o2 o3 o4 o5)))] [(.ref (own_pick v1 o1 o1 o2 o3 o4 o5)), (.ref (if (own_pick v1 o0 o1 o2 o3 o4 o5) = o0 then o1 else (own_pick v1 o0 o1 o2 o3 o4 o5)))]))
  refine Go.of (fun _ q => Jvm.RoadKit.acmp (g := (mkF m 27 #[.val (.int x1), .val (.int v1), .val (.ref (own_pick v1 o0 o1 o2 o3 o4 o5)), .val (.ref (own_pick v1 o1 o1 o2 o3 o4 o5)), .val (.ref (if (own_pick v1 o0 o1 o2 o3 o4 o5) = o0 then o1 else (own_pick v1 o0 o1 o2 o3 o4 o5)))] [(.ref (own_pick v1 o1 o1 o2 o3 o4 o5)), (.ref (if (own_pick v1 o0 o1 o2 o3 o4 o5) = o0 then o1 else (own_pick v1 o0 o1 o2 o3 o4 o5)))])) X3 hx rfl rfl rfl (pc0 := 27) (pc' := 30) (same := true) rfl (hb hby at_27) rfl (decide_eq_true (congrArg Value.ref (own_q v1 o0 o1 o2 o3 o4 o5 n_1 n_2 n_3 n_4 n_5).1)) (by decide) (by decide) q) ?_
  show Go _ _ _ _ _ _ _ (T3.setTop (mkF m 30 #[.val (.int x1), .val (.int v1), .val (.ref (own_pick v1 o0 o1 o2 o3 o4 o5)), .val (.ref (own_pick v1 o1 o1 o2 o3 o4 o5)), .val (.ref (if (own_pick v1 o0 o1 o2 o3 o4 o5) = o0 then o1 else (own_pick v1 o0 o1 o2 o3 o4 o5)))] []))
  refine Go.of (fun _ q => XS.aload X3.here hx rfl (hb hby at_30) rfl rfl q) ?_
  show Go _ _ _ _ _ _ _ (T3.setTop (mkF m 32 #[.val (.int x1), .val (.int v1), .val (.ref (own_pick v1 o0 o1 o2 o3 o4 o5)), .val (.ref (own_pick v1 o1 o1 o2 o3 o4 o5)), .val (.ref (if (own_pick v1 o0 o1 o2 o3 o4 o5) = o0 then o1 else (own_pick v1 o0 o1 o2 o3 o4 o5)))] [(.ref (if (own_pick v1 o0 o1 o2 o3 o4 o5) = o0 then o1 else (own_pick v1 o0 o1 o2 o3 o4 o5)))]))
  refine Go.virtual X3 hx hZ (y := (⟨"com/example/latchwork/latchwork/LockManager$Mode", "queuedAs", "()Lcom/example/latchwork/latchwork/LockManager$Mode;"⟩ : MethodName)) (z := (⟨"com/example/latchwork/latchwork/LockManager$Mode", "queuedAs", "()Lcom/example/latchwork/latchwork/LockManager$Mode;"⟩ : MethodName)) (a := (if (own_pick v1 o0 o1 o2 o3 o4 o5) = o0 then o1 else (own_pick v1 o0 o1 o2 o3 o4 o5))) (argsL := []) hown (hw _ (List.mem_of_getElem? (i := 13) rfl)) (hw _ (List.mem_of_getElem? (i := 14) rfl)) (notFace_of_selects (args := #[]) (mvT hZ (hw _ (List.mem_of_getElem? (i := 16) rfl)))) (hw _ (List.mem_of_getElem? (i := 16) rfl)) (hw _ (List.mem_of_getElem? (i := 15) rfl)) (hw _ (List.mem_of_getElem? (i := 6) rfl)) (hw _ (List.mem_of_getElem? (i := 17) rfl)) (by decide) 0 e3 E_q (rm3 l Z a0 hw (if (own_pick v1 o0 o1 o2 o3 o4 o5) = o0 then o1 else (own_pick v1 o0 o1 o2 o3 o4 o5)) o0 o1 h0 n0 Zs Od S_0 S_1) (by decide) (by decide) (by decide) (by decide) (g := (mkF m 32 #[.val (.int x1), .val (.int v1), .val (.ref (own_pick v1 o0 o1 o2 o3 o4 o5)), .val (.ref (own_pick v1 o1 o1 o2 o3 o4 o5)), .val (.ref (if (own_pick v1 o0 o1 o2 o3 o4 o5) = o0 then o1 else (own_pick v1 o0 o1 o2 o3 o4 o5)))] [(.ref (if (own_pick v1 o0 o1 o2 o3 o4 o5) = o0 then o1 else (own_pick v1 o0 o1 o2 o3 o4 o5)))])) rfl (by rw [hml]; rfl) (rest := []) (lenOf pd1 rfl) rfl (by show 2 * 0 + _ ≤ _; exact Nat.le_of_eq rfl) (hb hby at_32) ?_
  intro T4 v4 L4 X4 q4
  obtain ⟨rfl, Nq4, e4⟩ := q4
  have N4 := Fr.app N3 Nq4
  show Go _ _ _ _ _ _ _ (T4.setTop (mkF m 35 #[.val (.int x1), .val (.int v1), .val (.ref (own_pick v1 o0 o1 o2 o3 o4 o5)), .val (.ref (own_pick v1 o1 o1 o2 o3 o4 o5)), .val (.ref (if (own_pick v1 o0 o1 o2 o3 o4 o5) = o0 then o1 else (own_pick v1 o0 o1 o2 o3 o4 o5)))] [(.ref (if (if (own_pick v1 o0 o1 o2 o3 o4 o5) = o0 then o1 else (own_pick v1 o0 o1 o2 o3 o4 o5)) = o0 then o1 else (if (own_pick v1 o0 o1 o2 o3 o4 o5) = o0 then o1 else (own_pick v1 o0 o1 o2 o3 o4 o5))))]))
  refine Go.of (fun _ q => XS.aload X4.here hx rfl (hb hby at_35) rfl rfl q) ?_
  show Go _ _ _ _ _ _ _ (T4.setTop (mkF m 37 #[.val (.int x1), .val (.int v1), .val (.ref (own_pick v1 o0 o1 o2 o3 o4 o5)), .val (.ref (own_pick v1 o1 o1 o2 o3 o4 o5)), .val (.ref (if (own_pick v1 o0 o1 o2 o3 o4 o5) = o0 then o1 else (own_pick v1 o0 o1 o2 o3 o4 o5)))] [(.ref (if (own_pick v1 o0 o1 o2 o3 o4 o5) = o0 then o1 else (own_pick v1 o0 o1 o2 o3 o4 o5))), (.ref (if (if (own_pick v1 o0 o1 o2 o3 o4 o5) = o0 then o1 else (own_pick v1 o0 o1 o2 o3 o4 o5)) = o0 then o1 else (if (own_pick v1 o0 o1 o2 o3 o4 o5) = o0 then o1 else (own_pick v1 o0 o1 o2 o3 o4 o5))))]))
  refine Go.of (fun _ q => Jvm.RoadKit.acmp (g := (mkF m 37 #[.val (.int x1), .val (.int v1), .val (.ref (own_pick v1 o0 o1 o2 o3 o4 o5)), .val (.ref (own_pick v1 o1 o1 o2 o3 o4 o5)), .val (.ref (if (own_pick v1 o0 o1 o2 o3 o4 o5) = o0 then o1 else (own_pick v1 o0 o1 o2 o3 o4 o5)))] [(.ref (if (own_pick v1 o0 o1 o2 o3 o4 o5) = o0 then o1 else (own_pick v1 o0 o1 o2 o3 o4 o5))), (.ref (if (if (own_pick v1 o0 o1 o2 o3 o4 o5) = o0 then o1 else (own_pick v1 o0 o1 o2 o3 o4 o5)) = o0 then o1 else (if (own_pick v1 o0 o1 o2 o3 o4 o5) = o0 then o1 else (own_pick v1 o0 o1 o2 o3 o4 o5))))])) X4 hx rfl rfl rfl (pc0 := 37) (pc' := 40) (same := true) rfl (hb hby at_37) rfl (decide_eq_true (congrArg Value.ref (own_twice _ _ _ (own_q v1 o0 o1 o2 o3 o4 o5 n_1 n_2 n_3 n_4 n_5).2))) (by decide) (by decide) q) ?_
  show Go _ _ _ _ _ _ _ (T4.setTop (mkF m 40 #[.val (.int x1), .val (.int v1), .val (.ref (own_pick v1 o0 o1 o2 o3 o4 o5)), .val (.ref (own_pick v1 o1 o1 o2 o3 o4 o5)), .val (.ref (if (own_pick v1 o0 o1 o2 o3 o4 o5) = o0 then o1 else (own_pick v1 o0 o1 o2 o3 o4 o5)))] []))
  refine Go.of (fun _ q => XS.iconst X4.here hx rfl (hb hby at_40) q) ?_
  show Go _ _ _ _ _ _ _ (T4.setTop (mkF m 41 #[.val (.int x1), .val (.int v1), .val (.ref (own_pick v1 o0 o1 o2 o3 o4 o5)), .val (.ref (own_pick v1 o1 o1 o2 o3 o4 o5)), .val (.ref (if (own_pick v1 o0 o1 o2 o3 o4 o5) = o0 then o1 else (own_pick v1 o0 o1 o2 o3 o4 o5)))] [(.int (1 : Int32))]))
  refine Go.of (fun _ q => XS.goto X4.here hx rfl (pc0 := 41) (pc' := 45) rfl (hb hby at_41) (by decide) (by decide) q) ?_
  show Go _ _ _ _ _ _ _ (T4.setTop (mkF m 45 #[.val (.int x1), .val (.int v1), .val (.ref (own_pick v1 o0 o1 o2 o3 o4 o5)), .val (.ref (own_pick v1 o1 o1 o2 o3 o4 o5)), .val (.ref (if (own_pick v1 o0 o1 o2 o3 o4 o5) = o0 then o1 else (own_pick v1 o0 o1 o2 o3 o4 o5)))] [(.int (1 : Int32))]))
  refine Go.retN X4 hx hlk (t := .boolean) hret (by simp) (hb hby at_45) rfl (by decide) (by decide) ?_
  rw [e4]
  exact ⟨rfl, N4⟩
set_option maxRecDepth 65536 in
set_option maxHeartbeats 40000000 in
theorem comes_1 {Post : Tables → Env → Array Value → State → Outcome → State → Prop} (hpost : ∀ tb e args s v u, (limb_1_1.after args s (.returned v) u = true ∧ limb_1_2.after args s (.returned v) u = true ∧ True) → FrameEnd s (.returned v) u (Jvm.fieldLocs frame_1_writes args s ++ Jvm.arrayLocs frame_1_arrays args s ++ Jvm.staticLocs frame_1_statics s) 0 0 → Post tb e args s (.returned v) u) :
    ArmFor flags0 classFile x code maxLocals ret World_1 tables_1 room_1 Calls_1 rest_1 Pre_1 Post := by
  intro l hfl _ _ p e ha hc hk s m args below hf hA hF happ hP
  obtain ⟨hcalls, hrest, hpre⟩ := hP
  obtain ⟨-, -, -, hnamed, -, -, -, hat⟩ := (Spec.applies_iff hf).mp happ
  obtain ⟨hg, hn⟩ := and_e (Cond.before_iff.mp (show (Jvm.Cond.and given_1 narrow_1).before args s = true from hpre))
  obtain ⟨g1, g2⟩ := and_e hg
  obtain ⟨w0, rfl⟩ : ∃ w0 : Value, args = #[w0] := by
    have hs : args.size = 1 := by simpa [Cond.value, given_1] using g1
    obtain ⟨L⟩ := args
    match L, hs with
    | [w0], _ => exact ⟨w0, rfl⟩
  have hw := fun d (hd : d ∈ tables_1) => atoms_spec (ws := Jvm.Cond.code x code maxLocals ret :: tables_1) hat d (List.mem_cons_of_mem _ hd)
  have hfit : Fit s := fun {y c} hc i hi => by
    obtain ⟨ha, rfl⟩ := Array.getElem?_eq_some_iff.mp hc
    have q := List.all_eq_true.mp ((Array.all_eq_true_iff_forall_mem.mp hF) _ (Array.getElem_mem ha)) i (List.mem_range.mpr hi)
    simpa [Array.getElem?_eq_getElem hi] using q
  obtain ⟨i0, ei0⟩ := is_v g2
  obtain rfl : w0 = (.int i0) := Option.some.inj ei0
  obtain ⟨hn1a, hn1b⟩ := and_e hn
  obtain ⟨a_INTENTION_SHARED, ev_INTENTION_SHARED⟩ := exa_v hn1a
  have S_INTENTION_SHARED := Sta.start ev_INTENTION_SHARED (Or.inr ⟨(hw _ (List.mem_of_getElem? (i := 6) rfl)), (hw _ (List.mem_of_getElem? (i := 7) rfl))⟩)
  have E_INTENTION_SHARED := Exa.start ev_INTENTION_SHARED hn1a
  obtain ⟨hn2a, hn2b⟩ := and_e hn1b
  obtain ⟨a_INTENTION_EXCLUSIVE, ev_INTENTION_EXCLUSIVE⟩ := exa_v hn2a
  have S_INTENTION_EXCLUSIVE := Sta.start ev_INTENTION_EXCLUSIVE (Or.inr ⟨(hw _ (List.mem_of_getElem? (i := 6) rfl)), (hw _ (List.mem_of_getElem? (i := 12) rfl))⟩)
  have E_INTENTION_EXCLUSIVE := Exa.start ev_INTENTION_EXCLUSIVE hn2a
  obtain ⟨hn3a, hn3b⟩ := and_e hn2b
  have F_INTENTION_EXCLUSIVE_ordinal := Fld.start ((fld_at ev_INTENTION_EXCLUSIVE).symm.trans (eqi_v hn3a))
  obtain ⟨hn4a, hn4b⟩ := and_e hn3b
  have F_INTENTION_SHARED_ordinal := Fld.start ((fld_at ev_INTENTION_SHARED).symm.trans (eqi_v hn4a))
  obtain ⟨hn5a, hn5b⟩ := and_e hn4b
  obtain ⟨a_SHARED_INTENTION_EXCLUSIVE, ev_SHARED_INTENTION_EXCLUSIVE⟩ := exa_v hn5a
  have S_SHARED_INTENTION_EXCLUSIVE := Sta.start ev_SHARED_INTENTION_EXCLUSIVE (Or.inr ⟨(hw _ (List.mem_of_getElem? (i := 6) rfl)), (hw _ (List.mem_of_getElem? (i := 21) rfl))⟩)
  have E_SHARED_INTENTION_EXCLUSIVE := Exa.start ev_SHARED_INTENTION_EXCLUSIVE hn5a
  obtain ⟨hn6a, hn6b⟩ := and_e hn5b
  have F_SHARED_INTENTION_EXCLUSIVE_ordinal := Fld.start ((fld_at ev_SHARED_INTENTION_EXCLUSIVE).symm.trans (eqi_v hn6a))
  obtain ⟨hn7a, hn7b⟩ := and_e hn6b
  obtain ⟨a_SHARED, ev_SHARED⟩ := exa_v hn7a
  have S_SHARED := Sta.start ev_SHARED (Or.inr ⟨(hw _ (List.mem_of_getElem? (i := 6) rfl)), (hw _ (List.mem_of_getElem? (i := 23) rfl))⟩)
  have E_SHARED := Exa.start ev_SHARED hn7a
  obtain ⟨hn8a, hn8b⟩ := and_e hn7b
  have F_SHARED_ordinal := Fld.start ((fld_at ev_SHARED).symm.trans (eqi_v hn8a))
  obtain ⟨hn9a, hn9b⟩ := and_e hn8b
  obtain ⟨a_EXCLUSIVE, ev_EXCLUSIVE⟩ := exa_v hn9a
  have S_EXCLUSIVE := Sta.start ev_EXCLUSIVE (Or.inr ⟨(hw _ (List.mem_of_getElem? (i := 6) rfl)), (hw _ (List.mem_of_getElem? (i := 25) rfl))⟩)
  have E_EXCLUSIVE := Exa.start ev_EXCLUSIVE hn9a
  obtain ⟨hn10a, hn10b⟩ := and_e hn9b
  have F_EXCLUSIVE_ordinal := Fld.start ((fld_at ev_EXCLUSIVE).symm.trans (eqi_v hn10a))
  obtain ⟨hn11a, hn11b⟩ := and_e hn10b
  obtain ⟨a_UPDATE, ev_UPDATE⟩ := exa_v hn11a
  have S_UPDATE := Sta.start ev_UPDATE (Or.inr ⟨(hw _ (List.mem_of_getElem? (i := 6) rfl)), (hw _ (List.mem_of_getElem? (i := 27) rfl))⟩)
  have E_UPDATE := Exa.start ev_UPDATE hn11a
  have F_UPDATE_ordinal := Fld.start ((fld_at ev_UPDATE).symm.trans (eqi_v hn11b))
  obtain ⟨n, o, h1, h2, h3, _, L, rfl, ⟨rfl, N⟩, hq⟩ := rm0 l s _ hw i0 a_INTENTION_SHARED a_INTENTION_EXCLUSIVE a_SHARED a_SHARED_INTENTION_EXCLUSIVE a_UPDATE a_EXCLUSIVE s.heap s.heap.size (Nat.le_refl _) (Old.start s) S_INTENTION_SHARED S_INTENTION_EXCLUSIVE S_SHARED S_SHARED_INTENTION_EXCLUSIVE S_UPDATE S_EXCLUSIVE E_INTENTION_SHARED E_INTENTION_EXCLUSIVE E_SHARED E_SHARED_INTENTION_EXCLUSIVE E_UPDATE E_EXCLUSIVE (Fld.ne F_INTENTION_EXCLUSIVE_ordinal F_INTENTION_SHARED_ordinal (by decide)) (Fld.ne F_SHARED_ordinal F_INTENTION_SHARED_ordinal (by decide)) (Fld.ne F_SHARED_INTENTION_EXCLUSIVE_ordinal F_INTENTION_SHARED_ordinal (by decide)) (Fld.ne F_UPDATE_ordinal F_INTENTION_SHARED_ordinal (by decide)) (Fld.ne F_EXCLUSIVE_ordinal F_INTENTION_SHARED_ordinal (by decide)) tables_1 p e ha hc hk s m _ below hf ((Spec.applies_iff_loose hf).mp happ).1 ⟨rfl, State.Warmed39.refl s, rfl⟩ trivial
  refine ⟨n, _, h1, h2, h3, hpost _ _ _ _ _ _ ⟨Cond.after_iff.mpr rfl, Cond.after_iff.mpr (eq_i res_at (Term.int_eval (1)) rfl), trivial⟩ ⟨hq.1, hq.2.1, (hq.2.2.sift fun y hy => Or.inr (N y hy)).mono (by decide) (by decide)⟩⟩
theorem main_1_1 : Claimed_1_1 := comes_1 fun _ _ _ _ _ _ h hF => ⟨h.1, hF⟩
theorem main_1_2 : Claimed_1_2 := comes_1 fun _ _ _ _ _ _ h hF => ⟨h.2.1, hF⟩
end Jvm.Pilot.@@N@@
namespace Jvm.Pilot.@@N@@
open Jvm Jvm.ClassFile Sem Op Lib Jvm.Free Jvm.Stand Jvm.Pilot.@@N@@.Jvm.D
/-! MADE BY PROGRAM (witnessworld.py) out of the Statement's table words and the real class files: 12 classes; the members and pool entries that the words name. The judged class is class 1, her method 1. -/
namespace start1
open Jvm.ClassFile
def u (s : String) : CpInfo := .utf8 (stringToUtf16 s)
/-- a pool by its gaps: so many unusable entries, then the entry; so many at the end -/
def gap : Nat → List CpInfo → List CpInfo
  | 0, r => r
  | n + 1, r => .unusable :: gap n r
def poolList (es : List (Nat × CpInfo)) (last : Nat) : List CpInfo := es.foldr (fun e r => gap e.1 (e.2 :: r)) (gap last [])
def pool (es : List (Nat × CpInfo)) (last : Nat) : Array CpInfo := ⟨poolList es last⟩
def fileOf (pool : Array CpInfo) (this : Nat) (attrs : Array Attribute := #[]) (ms : Array MethodInfo := #[]) (fl : Nat := 33) (sup : Nat := 0) (ifs : Array Nat := #[]) (fds : Array FieldInfo := #[]) : ClassFile where
  minorVersion := 0
  majorVersion := 65
  constantPool := pool
  accessFlags := fl
  thisClass := this
  superClass := sup
  interfaces := ifs
  fields := fds
  methods := ms
  attributes := attrs
def plain (name : String) (sup : Option ClassId) : Class where
  name := name
  kind := .ordinary
  loader := none
  accessFlags := 33
  super := sup
  interfaces := #[]
  cf := none
  fields := #[]
  methods := #[]
  instanceTypes := #[]
  staticTypes := #[]
  resolved := #[]
  callSites := []
  init := .initialized
  statics := none
  mirror := none

def pool0 : Array CpInfo := pool [(5, u "<init>"), (0, u "()V"), (1, .class_ 10), (1, u "java/lang/Object")] 113

def k0m0 : Method := { name := "<init>", desc := "()V", sig := { parameters := [], returnType := none }, accessFlags := 1, code := none }
/-- java/lang/Object -/
def k0 : Class := { plain "java/lang/Object" none with
  accessFlags := 33
  interfaces := #[]
  cf := some (fileOf pool0 8 #[] #[{ accessFlags := 1, nameIndex := 5, descriptorIndex := 6, attributes := #[] }] 33 0 #[] #[])
  fields := #[]
  methods := #[k0m0]
  instanceTypes := #[]
  staticTypes := #[]
  resolved := Array.replicate 124 none
  statics := none }

def pool1 : Array CpInfo := pool [(2, .class_ 4), (1, u "java/lang/Object"), (0, u "<init>"), (0, u "()V"), (0, .integer 2147483647), (0, .methodref 9 10), (0, .class_ 11), (0, .nameAndType 12 13), (0, u "com/example/latchwork/latchwork/ModeQueuedAsPinLaw"), (0, u "mode"), (0, u "(I)Lcom/example/latchwork/latchwork/LockManager$Mode;"), (0, .methodref 9 15), (0, .nameAndType 16 13), (0, u "expectedOf"), (0, .methodref 18 19), (0, .class_ 20), (0, .nameAndType 21 22), (0, u "com/example/latchwork/latchwork/LockManager$Mode"), (0, u "queuedAs"), (0, u "()Lcom/example/latchwork/latchwork/LockManager$Mode;"), (0, .fieldref 18 24), (0, .nameAndType 25 26), (0, u "INTENTION_SHARED"), (0, u "Lcom/example/latchwork/latchwork/LockManager$Mode;"), (0, .fieldref 18 28), (0, .nameAndType 29 26), (0, u "INTENTION_EXCLUSIVE"), (0, .fieldref 18 31), (0, .nameAndType 32 26), (0, u "SHARED"), (0, .fieldref 18 34), (0, .nameAndType 35 26), (0, u "SHARED_INTENTION_EXCLUSIVE"), (0, .fieldref 18 37), (0, .nameAndType 38 26), (0, u "UPDATE"), (0, .fieldref 18 40), (0, .nameAndType 41 26), (0, u "EXCLUSIVE"), (2, u "law"), (0, u "(I)Z")] 7

def k1m0 : Method := { name := "<init>", desc := "()V", sig := { parameters := [], returnType := none }, accessFlags := 1, code := none }
def k1c1 : Code := { maxStack := 2, maxLocals := 5, code := code, exceptionTable := #[], attributes := #[] }
def k1m1 : Method := { name := "law", desc := "(I)Z", sig := { parameters := [.int], returnType := some .boolean }, accessFlags := 9, code := some k1c1 }
def k1c2 : Code := { maxStack := 2, maxLocals := 1, code := method_3_code, exceptionTable := #[], attributes := #[] }
def k1m2 : Method := { name := "mode", desc := "(I)Lcom/example/latchwork/latchwork/LockManager$Mode;", sig := { parameters := [.int], returnType := some (.object "com/example/latchwork/latchwork/LockManager$Mode") }, accessFlags := 10, code := some k1c2 }
def k1c3 : Code := { maxStack := 2, maxLocals := 1, code := method_4_code, exceptionTable := #[], attributes := #[] }
def k1m3 : Method := { name := "expectedOf", desc := "(I)Lcom/example/latchwork/latchwork/LockManager$Mode;", sig := { parameters := [.int], returnType := some (.object "com/example/latchwork/latchwork/LockManager$Mode") }, accessFlags := 10, code := some k1c3 }
/-- com/example/latchwork/latchwork/ModeQueuedAsPinLaw -/
def k1 : Class := { plain "com/example/latchwork/latchwork/ModeQueuedAsPinLaw" (some 0) with
  accessFlags := 49
  interfaces := #[]
  cf := some (fileOf pool1 9 #[] #[{ accessFlags := 1, nameIndex := 5, descriptorIndex := 6, attributes := #[] }, { accessFlags := 9, nameIndex := 44, descriptorIndex := 45, attributes := #[] }, { accessFlags := 10, nameIndex := 12, descriptorIndex := 13, attributes := #[] }, { accessFlags := 10, nameIndex := 16, descriptorIndex := 13, attributes := #[] }] 49 2 #[] #[])
  fields := #[]
  methods := #[k1m0, k1m1, k1m2, k1m3]
  instanceTypes := #[]
  staticTypes := #[]
  resolved := Array.replicate 53 none
  statics := none }

def pool2 : Array CpInfo := pool [(1, .class_ 2), (0, u "java/lang/constant/Constable"), (0, .class_ 4), (0, u "java/lang/Object")] 6

/-- java/lang/constant/Constable -/
def k2 : Class := { plain "java/lang/constant/Constable" (some 0) with
  accessFlags := 1537
  interfaces := #[]
  cf := some (fileOf pool2 1 #[] #[] 1537 3 #[] #[])
  fields := #[]
  methods := #[]
  instanceTypes := #[]
  staticTypes := #[]
  resolved := Array.replicate 11 none
  statics := none }

def pool3 : Array CpInfo := pool [(1, .class_ 2), (0, u "java/lang/Comparable"), (0, .class_ 4), (0, u "java/lang/Object")] 7

/-- java/lang/Comparable -/
def k3 : Class := { plain "java/lang/Comparable" (some 0) with
  accessFlags := 1537
  interfaces := #[]
  cf := some (fileOf pool3 1 #[] #[] 1537 3 #[] #[])
  fields := #[]
  methods := #[]
  instanceTypes := #[]
  staticTypes := #[]
  resolved := Array.replicate 12 none
  statics := none }

def pool4 : Array CpInfo := pool [(1, .class_ 2), (0, u "java/io/Serializable"), (0, .class_ 4), (0, u "java/lang/Object")] 2

/-- java/io/Serializable -/
def k4 : Class := { plain "java/io/Serializable" (some 0) with
  accessFlags := 1537
  interfaces := #[]
  cf := some (fileOf pool4 1 #[] #[] 1537 3 #[] #[])
  fields := #[]
  methods := #[]
  instanceTypes := #[]
  staticTypes := #[]
  resolved := Array.replicate 7 none
  statics := none }

def pool5 : Array CpInfo := pool [(2, .class_ 4), (1, u "java/lang/Enum"), (0, u "name"), (0, u "Ljava/lang/String;"), (2, u "ordinal"), (0, u "I"), (1, .class_ 14), (1, u "java/lang/Object"), (4, u "hash"), (86, .class_ 108), (1, u "java/lang/Enum$EnumDesc"), (2, .class_ 112), (0, u "java/lang/constant/Constable"), (0, .class_ 114), (0, u "java/lang/Comparable"), (0, .class_ 116), (0, u "java/io/Serializable")] 87

/-- java/lang/Enum -/
def k5 : Class := { plain "java/lang/Enum" (some 0) with
  accessFlags := 1057
  interfaces := #[2, 3, 4]
  cf := some (fileOf pool5 2 #[.nestMembers #[106]] #[] 1057 12 #[111, 113, 115] #[{ accessFlags := 18, nameIndex := 5, descriptorIndex := 6, attributes := #[] }, { accessFlags := 18, nameIndex := 9, descriptorIndex := 10, attributes := #[] }, { accessFlags := 2, nameIndex := 19, descriptorIndex := 10, attributes := #[] }])
  fields := #[{ name := "name", type := (.object "java/lang/String"), accessFlags := 18, slot := 0, constantValue := 0 }, { name := "ordinal", type := .int, accessFlags := 18, slot := 1, constantValue := 0 }, { name := "hash", type := .int, accessFlags := 2, slot := 2, constantValue := 0 }]
  methods := #[]
  instanceTypes := #[(.object "java/lang/String"), .int, .int]
  staticTypes := #[]
  resolved := Array.replicate 204 none
  statics := none }

def pool6 : Array CpInfo := pool [(1, .class_ 2), (0, u "com/example/latchwork/latchwork/LockManager$Mode"), (0, .fieldref 1 4), (0, .nameAndType 5 6), (0, u "INTENTION_SHARED"), (0, u "Lcom/example/latchwork/latchwork/LockManager$Mode;"), (0, .fieldref 1 8), (0, .nameAndType 9 6), (0, u "INTENTION_EXCLUSIVE"), (2, u "SHARED"), (2, u "SHARED_INTENTION_EXCLUSIVE"), (2, u "UPDATE"), (2, u "EXCLUSIVE"), (2, u "$VALUES"), (0, u "[Lcom/example/latchwork/latchwork/LockManager$Mode;"), (6, .class_ 34), (1, u "java/lang/Enum"), (8, u "below"), (2, u "GRANTED"), (0, u "[[Z"), (6, u "COVERS"), (2, u "JOINS"), (0, u "[[Lcom/example/latchwork/latchwork/LockManager$Mode;"), (54, u "GRANTED_BESIDE"), (0, u "Ljava/util/List;"), (5, u "MODES"), (38, u "queuedAs"), (0, u "()Lcom/example/latchwork/latchwork/LockManager$Mode;"), (16, .class_ 178), (0, u "com/example/latchwork/latchwork/LockManager")] 24

def k6c0 : Code := { maxStack := 2, maxLocals := 1, code := prog_30_method_7_code, exceptionTable := #[], attributes := #[] }
def k6m0 : Method := { name := "queuedAs", desc := "()Lcom/example/latchwork/latchwork/LockManager$Mode;", sig := { parameters := [], returnType := some (.object "com/example/latchwork/latchwork/LockManager$Mode") }, accessFlags := 0, code := some k6c0 }
/-- com/example/latchwork/latchwork/LockManager$Mode -/
def k6 : Class := { plain "com/example/latchwork/latchwork/LockManager$Mode" (some 5) with
  accessFlags := 16432
  interfaces := #[]
  cf := some (fileOf pool6 1 #[.nestHost 177] #[{ accessFlags := 0, nameIndex := 159, descriptorIndex := 160, attributes := #[] }] 16432 32 #[] #[{ accessFlags := 16409, nameIndex := 5, descriptorIndex := 6, attributes := #[] }, { accessFlags := 16409, nameIndex := 9, descriptorIndex := 6, attributes := #[] }, { accessFlags := 16409, nameIndex := 12, descriptorIndex := 6, attributes := #[] }, { accessFlags := 16409, nameIndex := 15, descriptorIndex := 6, attributes := #[] }, { accessFlags := 16409, nameIndex := 18, descriptorIndex := 6, attributes := #[] }, { accessFlags := 16409, nameIndex := 21, descriptorIndex := 6, attributes := #[] }, { accessFlags := 26, nameIndex := 113, descriptorIndex := 114, attributes := #[] }, { accessFlags := 26, nameIndex := 120, descriptorIndex := 25, attributes := #[] }, { accessFlags := 26, nameIndex := 46, descriptorIndex := 47, attributes := #[] }, { accessFlags := 26, nameIndex := 54, descriptorIndex := 47, attributes := #[] }, { accessFlags := 26, nameIndex := 57, descriptorIndex := 58, attributes := #[] }, { accessFlags := 18, nameIndex := 43, descriptorIndex := 25, attributes := #[] }, { accessFlags := 4122, nameIndex := 24, descriptorIndex := 25, attributes := #[] }])
  fields := #[{ name := "INTENTION_SHARED", type := (.object "com/example/latchwork/latchwork/LockManager$Mode"), accessFlags := 16409, slot := 0, constantValue := 0 }, { name := "INTENTION_EXCLUSIVE", type := (.object "com/example/latchwork/latchwork/LockManager$Mode"), accessFlags := 16409, slot := 1, constantValue := 0 }, { name := "SHARED", type := (.object "com/example/latchwork/latchwork/LockManager$Mode"), accessFlags := 16409, slot := 2, constantValue := 0 }, { name := "SHARED_INTENTION_EXCLUSIVE", type := (.object "com/example/latchwork/latchwork/LockManager$Mode"), accessFlags := 16409, slot := 3, constantValue := 0 }, { name := "UPDATE", type := (.object "com/example/latchwork/latchwork/LockManager$Mode"), accessFlags := 16409, slot := 4, constantValue := 0 }, { name := "EXCLUSIVE", type := (.object "com/example/latchwork/latchwork/LockManager$Mode"), accessFlags := 16409, slot := 5, constantValue := 0 }, { name := "GRANTED_BESIDE", type := (.object "java/util/List"), accessFlags := 26, slot := 6, constantValue := 0 }, { name := "MODES", type := (.array (.object "com/example/latchwork/latchwork/LockManager$Mode")), accessFlags := 26, slot := 7, constantValue := 0 }, { name := "GRANTED", type := (.array (.array .boolean)), accessFlags := 26, slot := 8, constantValue := 0 }, { name := "COVERS", type := (.array (.array .boolean)), accessFlags := 26, slot := 9, constantValue := 0 }, { name := "JOINS", type := (.array (.array (.object "com/example/latchwork/latchwork/LockManager$Mode"))), accessFlags := 26, slot := 10, constantValue := 0 }, { name := "below", type := (.array (.object "com/example/latchwork/latchwork/LockManager$Mode")), accessFlags := 18, slot := 3, constantValue := 0 }, { name := "$VALUES", type := (.array (.object "com/example/latchwork/latchwork/LockManager$Mode")), accessFlags := 4122, slot := 11, constantValue := 0 }]
  methods := #[k6m0]
  instanceTypes := #[(.object "java/lang/String"), .int, .int, (.array (.object "com/example/latchwork/latchwork/LockManager$Mode"))]
  staticTypes := #[(.object "com/example/latchwork/latchwork/LockManager$Mode"), (.object "com/example/latchwork/latchwork/LockManager$Mode"), (.object "com/example/latchwork/latchwork/LockManager$Mode"), (.object "com/example/latchwork/latchwork/LockManager$Mode"), (.object "com/example/latchwork/latchwork/LockManager$Mode"), (.object "com/example/latchwork/latchwork/LockManager$Mode"), (.object "java/util/List"), (.array (.object "com/example/latchwork/latchwork/LockManager$Mode")), (.array (.array .boolean)), (.array (.array .boolean)), (.array (.array (.object "com/example/latchwork/latchwork/LockManager$Mode"))), (.array (.object "com/example/latchwork/latchwork/LockManager$Mode"))]
  resolved := Array.replicate 203 none
  statics := some 0 }

def pool7 : Array CpInfo := pool [(1, u "java/lang/Cloneable"), (0, .class_ 1), (0, u "java/lang/Object"), (0, .class_ 3)] 3

/-- java/lang/Cloneable -/
def k7 : Class := { plain "java/lang/Cloneable" (some 0) with
  accessFlags := 1537
  interfaces := #[]
  cf := some (fileOf pool7 2 #[] #[] 1537 4 #[] #[])
  fields := #[]
  methods := #[]
  instanceTypes := #[]
  staticTypes := #[]
  resolved := Array.replicate 8 none
  statics := none }

/-- the primitive byte -/
def k8 : Class := { plain "byte" none with kind := .primitive 'B', accessFlags := 0x411 }
/-- [B -/
def k9 : Class := { plain "[B" (some 0) with kind := .array 8 .byte, interfaces := #[7, 4], accessFlags := 1041 }

/-- the primitive int -/
def k10 : Class := { plain "int" none with kind := .primitive 'I', accessFlags := 0x411 }
/-- [I -/
def k11 : Class := { plain "[I" (some 0) with kind := .array 10 .int, interfaces := #[7, 4], accessFlags := 1041 }

def heap : Heap := #[{ cls := 6, slots := #[.ref 1, .ref 2, .ref 3, .ref 4, .ref 5, .ref 6, .null, .null, .null, .null, .null, .null], vm := .statics 6 },
  { cls := 6, slots := #[.null, .int 0, .int 0, .null], vm := .none },
  { cls := 6, slots := #[.null, .int 1, .int 0, .null], vm := .none },
  { cls := 6, slots := #[.null, .int 2, .int 0, .null], vm := .none },
  { cls := 6, slots := #[.null, .int 3, .int 0, .null], vm := .none },
  { cls := 6, slots := #[.null, .int 4, .int 0, .null], vm := .none },
  { cls := 6, slots := #[.null, .int 5, .int 0, .null], vm := .none }]
def classes : Array Class := #[k0, k1, k2, k3, k4, k5, k6, k7, k8, k9, k10, k11]
def interned : List (Array UInt16 × Addr) := []
def slotsUsed : Nat := 36
def theMethod : MethodId := ⟨1, 1⟩
def args0 : Array Value := #[.int 5]
def aboutOver (below : List Frame) : State where
  vm := { classes := classes, interned := interned.toArray }
  heap := heap
  slotsUsed := slotsUsed
  threads := #[{ frames := .invoking theMethod args0 :: below }]
def below0 : List Frame := [.native { method := ⟨0, 0⟩, args := #[] }]
def about1 : State := aboutOver below0
def p0 : Program := .bare "" "" ""
def e0 : Env := launch0.env 0 0 0
theorem w_frames : about1.frames = Frame.invoking theMethod args0 :: below0 := rfl
set_option maxRecDepth 65536 in
theorem w_args : argsFit about1.vm theMethod args0 = true := by decide +kernel
set_option maxRecDepth 65536 in
theorem w_heap : heapFits about1 = true := by decide +kernel
set_option maxRecDepth 65536 in
theorem w_runnable : about1.curStatus? = some .runnable := by decide +kernel
set_option maxRecDepth 65536 in
theorem w_alone : about1.alone = true := by decide +kernel
set_option maxRecDepth 65536 in
theorem w_named : about1.methodNamed? x = some theMethod := by decide +kernel
set_option maxRecDepth 65536 in
theorem w_hears : about1.hears theMethod below0 = true := by decide +kernel
set_option maxRecDepth 65536 in
theorem w_ripe : about1.ripe theMethod args0 below0 = true := by decide +kernel
theorem w_running : about1.status = .running := rfl
set_option maxRecDepth 65536 in
theorem w_room : about1.hasRoom e0.platform room_1 = true :=
  launch0.hasRoom_least _ room_1 (by decide +kernel) (by decide +kernel) (by decide +kernel) (by decide +kernel) (by decide +kernel) (by decide +kernel)
theorem allAtoms_all (ts : List Jvm.Cond) (a : Array Jvm.Value) (st : Jvm.State) : (allAtoms ts).before a st = ts.all (fun c => c.before a st) := by
  induction ts with
  | nil => rfl
  | cons c t ih =>
    show (Jvm.Cond.and c (allAtoms t)).before a st = _
    rw [Jvm.Cond.before_and, ih, List.all_cons]
def words1 : List Jvm.Cond := Jvm.Cond.code x code maxLocals ret :: tables_1
/-- a 'code' word, met by the world's own term for the bytes: nothing is compared byte by byte -/
theorem code_word {y : MethodName} {bytes : ByteArray} {mx : Nat} {rt : Option FieldType} {a : Array Value} {s : State} {m : MethodId} {meth : Method} {c : Code} (h1 : s.methodNamed? y = some m) (h2 : s.vm.method? m = some meth) (h3 : meth.code = some c) (h4 : c.code = bytes)
    (h5 : (c.maxLocals == mx && c.exceptionTable.isEmpty && decide (c.maxStack ≤ mostOperands) && decide (meth.sig.returnType = rt) && !meth.locks && decide (parseMethodDescriptor y.desc = some meth.sig)) = true) : (Jvm.Cond.code y bytes mx rt).before a s = true := by
  simp only [Bool.and_eq_true, beq_iff_eq, Bool.not_eq_true', decide_eq_true_eq] at h5
  obtain ⟨⟨⟨⟨⟨g1, g2⟩, g3⟩, g4⟩, g5⟩, g6⟩ := h5
  simp [Cond.before, Cond.holds, Cond.value, h1, h2, h3, h4, g1, g2, g3, g4, g5, g6]
def isCode : Jvm.Cond → Bool
  | .code _ _ _ _ => true
  | _ => false
theorem all_split {L : List Jvm.Cond} {P : Jvm.Cond → Bool} (h1 : L.all (fun c => isCode c || P c) = true) (h2 : ∀ c ∈ L.filter isCode, P c = true) : L.all P = true := by
  refine List.all_eq_true.mpr fun c hc => ?_
  have h := List.all_eq_true.mp h1 c hc
  rcases Bool.eq_false_or_eq_true (isCode c) with hi | hi
  · exact h2 c (List.mem_filter.mpr ⟨hc, hi⟩)
  · simpa [hi] using h
set_option maxRecDepth 65536 in
theorem w_c0 : (Jvm.Cond.code x code maxLocals ret).before args0 about1 = true := code_word (m := ⟨1, 1⟩) (meth := k1m1) (c := k1c1) (by decide +kernel) rfl rfl rfl (by decide +kernel)
set_option maxRecDepth 65536 in
theorem w_c1 : (Jvm.Cond.code ({ cls := "com/example/latchwork/latchwork/ModeQueuedAsPinLaw", name := "mode", desc := "(I)Lcom/example/latchwork/latchwork/LockManager$Mode;" } : Jvm.MethodName) method_3_code (1 : Nat) (Option.some (Jvm.ClassFile.FieldType.object "com/example/latchwork/latchwork/LockManager$Mode"))).before args0 about1 = true := code_word (m := ⟨1, 2⟩) (meth := k1m2) (c := k1c2) (by decide +kernel) rfl rfl rfl (by decide +kernel)
set_option maxRecDepth 65536 in
theorem w_c2 : (Jvm.Cond.code ({ cls := "com/example/latchwork/latchwork/ModeQueuedAsPinLaw", name := "expectedOf", desc := "(I)Lcom/example/latchwork/latchwork/LockManager$Mode;" } : Jvm.MethodName) method_4_code (1 : Nat) (Option.some (Jvm.ClassFile.FieldType.object "com/example/latchwork/latchwork/LockManager$Mode"))).before args0 about1 = true := code_word (m := ⟨1, 3⟩) (meth := k1m3) (c := k1c3) (by decide +kernel) rfl rfl rfl (by decide +kernel)
set_option maxRecDepth 65536 in
theorem w_c3 : (Jvm.Cond.code ({ cls := "com/example/latchwork/latchwork/LockManager$Mode", name := "queuedAs", desc := "()Lcom/example/latchwork/latchwork/LockManager$Mode;" } : Jvm.MethodName) prog_30_method_7_code (1 : Nat) (Option.some (Jvm.ClassFile.FieldType.object "com/example/latchwork/latchwork/LockManager$Mode"))).before args0 about1 = true := code_word (m := ⟨6, 0⟩) (meth := k6m0) (c := k6c0) (by decide +kernel) rfl rfl rfl (by decide +kernel)
def codes1 : List Jvm.Cond := [Jvm.Cond.code x code maxLocals ret, Jvm.Cond.code ({ cls := "com/example/latchwork/latchwork/ModeQueuedAsPinLaw", name := "mode", desc := "(I)Lcom/example/latchwork/latchwork/LockManager$Mode;" } : Jvm.MethodName) method_3_code (1 : Nat) (Option.some (Jvm.ClassFile.FieldType.object "com/example/latchwork/latchwork/LockManager$Mode")), Jvm.Cond.code ({ cls := "com/example/latchwork/latchwork/ModeQueuedAsPinLaw", name := "expectedOf", desc := "(I)Lcom/example/latchwork/latchwork/LockManager$Mode;" } : Jvm.MethodName) method_4_code (1 : Nat) (Option.some (Jvm.ClassFile.FieldType.object "com/example/latchwork/latchwork/LockManager$Mode")), Jvm.Cond.code ({ cls := "com/example/latchwork/latchwork/LockManager$Mode", name := "queuedAs", desc := "()Lcom/example/latchwork/latchwork/LockManager$Mode;" } : Jvm.MethodName) prog_30_method_7_code (1 : Nat) (Option.some (Jvm.ClassFile.FieldType.object "com/example/latchwork/latchwork/LockManager$Mode"))]
set_option maxRecDepth 65536 in
theorem codes_eq : words1.filter isCode = codes1 := rfl
theorem w_codes : ∀ c ∈ words1.filter isCode, c.before args0 about1 = true := by
  rw [codes_eq]
  intro c hc
  simp only [codes1, List.mem_cons, List.not_mem_nil, or_false] at hc
  rcases hc with rfl | rfl | rfl | rfl
  · exact w_c0
  · exact w_c1
  · exact w_c2
  · exact w_c3
set_option maxRecDepth 65536 in
theorem w_t1 : (words1.take 24).all (fun c => isCode c || c.before args0 about1) = true := by decide +kernel
set_option maxRecDepth 65536 in
theorem w_t2 : (words1.drop 24).all (fun c => isCode c || c.before args0 about1) = true := by decide +kernel
theorem w_tables : (allAtoms (Jvm.Cond.code x code maxLocals ret :: tables_1)).before args0 about1 = true := by
  rw [allAtoms_all]
  show words1.all (fun c => c.before args0 about1) = true
  refine all_split ?_ w_codes
  rw [← List.take_append_drop 24 words1, List.all_append, w_t1, w_t2]
  rfl
set_option maxRecDepth 65536 in
theorem w_case : (Jvm.Cond.and given_1 narrow_1).before args0 about1 = true := by decide +kernel
theorem w_applies : (headSpec (Jvm.Cond.code x code maxLocals ret :: tables_1) room_1).applies x e0.platform about1 = true :=
  (Spec.applies_iff w_frames).mpr ⟨w_running, w_runnable, w_alone, w_named, w_hears, w_ripe, w_room, w_tables⟩
theorem atStart : AtStart classFile x code maxLocals ret World_1 tables_1 room_1 Calls_1 rest_1 Pre_1 launch0 p0 e0 about1 theMethod args0 below0 :=
  ⟨lists_1, trivial, launch0.admits_env _ _ _, launch0.least_env, fairChoices_fair.cas, fairChoices_fair.clock, w_frames, w_args, w_heap, w_applies, trivial, trivial, w_case⟩
end start1
theorem witness_1 : WitnessClaimed_1 := ⟨start1.p0, start1.e0, start1.about1, start1.theMethod, start1.args0, start1.below0, start1.atStart⟩
end Jvm.Pilot.@@N@@
