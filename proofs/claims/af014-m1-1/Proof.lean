import JvmDerived
import JvmDerived.Pilot.@@N@@Statement
import JvmDerived.Pilot.@@N@@Code
set_option linter.unusedVariables false
set_option linter.unusedSimpArgs false
namespace Jvm.OwnKit
open Sem ClassFile Op Lib Jvm.Stand Jvm.Free Jvm.LawKit Jvm.RoadKit
section Kit
variable {p : Program} {l : Launch} {e : Env} {R : Room} {s : State} {m : MethodId} {args : Array Value} {below : List Frame} {meth : Method} {c : Code} {T : State} {locs : List Loc} {cells slots : Nat} {Z : State} {a0 : Array Value} {h h0 : Heap} {kc ks : Nat} {Q : Option Value → Heap → List Loc → Prop}
/-- from this state the body comes to its end, and Q holds of what it returns, of the heap there and of the places written -/
def Go (p : Program) (e : Env) (below : List Frame) (s : State) (kc ks : Nat) (Q : Option Value → Heap → List Loc → Prop) (a : State) : Prop :=
  ∃ (t : State) (o : Outcome), Steps p.tables e below a t ∧ t.status = .running ∧ Ended t below o ∧ ∃ v L, o = .returned v ∧ Q v t.heap L ∧ FrameEnd s o t L kc ks
theorem Go.of {a b : State} (st : ∀ t, Steps p.tables e below b t → Steps p.tables e below a t) (k : Go p e below s kc ks Q b) : Go p e below s kc ks Q a := by
  obtain ⟨t, o, h, r⟩ := k
  exact ⟨t, o, st t h, r⟩
theorem pad (X : Stand p l e R s m args below meth c T locs cells slots) {cells' slots' : Nat} (hc : cells ≤ cells') (hs : slots ≤ slots') : Stand p l e R s m args below meth c T locs cells' slots' :=
  ⟨X.admits, X.cas, X.clock, X.frames, X.room, X.hears, X.method, X.code, X.here, X.tail, X.warmed, X.limits, X.bytes, X.same.mono hc hs⟩
theorem Go.leave (X : Stand p l e R s m args below meth c T locs cells slots) (hlk : meth.locks = false) {v : Option Value} (hv : meth.sig.returnType = none → v = none) {g : JFrame}
    (st : ∀ fs, (∀ (f : JFrame) (acts : List Action), f.method = m → f.locked = none → f.entered = [] → (doReturn e (T.setTop f) acts v).1 = T.setFrames fs) → Steps p.tables e below (T.setTop g) (T.setFrames fs))
    (hc : cells ≤ kc) (hs : slots ≤ ks) (q : Q v T.heap locs) : Go p e below s kc ks Q (T.setTop g) := by
  obtain ⟨fs, hr, hrun, hended, hW, hsame⟩ := X.leave hv hlk
  exact ⟨_, _, st fs hr, hrun, hended, v, locs, rfl, q, ⟨_, rfl⟩, hW, hsame.mono hc hs⟩
theorem Go.retI (X : Stand p l e R s m args below meth c T locs cells slots) (hx : p.tables.exec = Jvm.exec) (hlk : meth.locks = false) (hret : meth.sig.returnType = some .int) {pc : Nat} {Ls : Array Slot} {z : Int32} {rest : List Value}
    (hd : decode c.code pc = .ok (.ireturn, 1)) (hc : cells ≤ kc) (hs : slots ≤ ks) (q : Q (some (.int z)) T.heap locs) : Go p e below s kc ks Q (T.setTop (mkF m pc Ls (.int z :: rest))) :=
  Go.leave X hlk (fun h => by rw [hret] at h; cases h) (fun fs hr => retOut X hx hret rfl (Or.inl ⟨rfl, Or.inl rfl, z, rfl⟩) hd hr) hc hs q
theorem Go.retN (X : Stand p l e R s m args below meth c T locs cells slots) (hx : p.tables.exec = Jvm.exec) (hlk : meth.locks = false) {t : FieldType} (hret : meth.sig.returnType = some t) (ht : t = .boolean ∨ t = .byte ∨ t = .char ∨ t = .short) {pc : Nat} {Ls : Array Slot} {z : Int32} {rest : List Value}
    (hd : decode c.code pc = .ok (.ireturn, 1)) (hz : nar t z = z) (hc : cells ≤ kc) (hs : slots ≤ ks) (q : Q (some (.int z)) T.heap locs) : Go p e below s kc ks Q (T.setTop (mkF m pc Ls (.int z :: rest))) :=
  Go.leave X hlk (fun h => by rw [hret] at h; cases h) (fun fs hr => RoadKit.retN X hx hret ht hd (by rw [hz]; exact hr)) hc hs q
theorem Go.retJ (X : Stand p l e R s m args below meth c T locs cells slots) (hx : p.tables.exec = Jvm.exec) (hlk : meth.locks = false) (hret : meth.sig.returnType = some .long) {pc : Nat} {Ls : Array Slot} {z : Int64} {rest : List Value}
    (hd : decode c.code pc = .ok (.lreturn, 1)) (hc : cells ≤ kc) (hs : slots ≤ ks) (q : Q (some (.long z)) T.heap locs) : Go p e below s kc ks Q (T.setTop (mkF m pc Ls (.long z :: rest))) :=
  Go.leave X hlk (fun h => by rw [hret] at h; cases h) (fun fs hr => retOut X hx hret rfl (Or.inr (Or.inl ⟨rfl, rfl, z, rfl⟩)) hd hr) hc hs q
theorem Go.retA (X : Stand p l e R s m args below meth c T locs cells slots) (hx : p.tables.exec = Jvm.exec) (hlk : meth.locks = false) {t : FieldType} (hret : meth.sig.returnType = some t) (ht : t.isReference = true) {pc : Nat} {Ls : Array Slot} {z : Value} {rest : List Value} (hz : z.isRef = true)
    (hd : decode c.code pc = .ok (.areturn, 1)) (hc : cells ≤ kc) (hs : slots ≤ ks) (q : Q (some z) T.heap locs) : Go p e below s kc ks Q (T.setTop (mkF m pc Ls (z :: rest))) :=
  Go.leave X hlk (fun h => by rw [hret] at h; cases h) (fun fs hr => retOut X hx hret (by cases t <;> first | rfl | (simp [FieldType.isReference] at ht; done)) (Or.inr (Or.inr (Or.inr (Or.inr ⟨rfl, ht, hz⟩)))) hd hr) hc hs q
theorem Go.retV (X : Stand p l e R s m args below meth c T locs cells slots) (hx : p.tables.exec = Jvm.exec) (hlk : meth.locks = false) (hret : meth.sig.returnType = none) {pc : Nat} {Ls : Array Slot}
    (hd : decode c.code pc = .ok (.return_, 1)) (hc : cells ≤ kc) (hs : slots ≤ ks) (q : Q none T.heap locs) : Go p e below s kc ks Q (T.setTop (mkF m pc Ls [])) :=
  Go.leave X hlk (fun _ => rfl) (fun fs hr => X.returnOut hx hret hd hr) hc hs q
/-- a body's contract: called with these arguments over this heap it returns, and Q holds -/
def Con (l : Launch) (Z : State) (y : MethodName) (bytes : ByteArray) (maxL : Nat) (ret : Option FieldType) (rm : Room) (as' : Array Value) (h0 : Heap) (Q : Option Value → Heap → List Loc → Prop) : Prop :=
  ∀ ws : List Cond, MetFree l y (head1 (Cond.code y bytes maxL ret :: ws) rm) (fun a U => a = as' ∧ Z.Warmed39 U.vm ∧ U.heap = h0) (fun _ _ _ _ _ => True) (fun _ U o U' => ∃ v L, o = .returned v ∧ Q v U'.heap L ∧ FrameEnd U o U' L rm.cells rm.slots)
theorem Con.intro {y : MethodName} {bytes : ByteArray} {maxL : Nat} {ret : Option FieldType} {rm : Room} {as' : Array Value} {gf : MethodId → JFrame} (hpl : plainFor y = true) (hef : ∀ m, entryFrame m as' maxL = gf m)
    (body : ∀ (p : Program) (e : Env) (s : State) (m : MethodId) (below : List Frame) (meth : Method) (c : Code) (s₁ : State), p.tables.exec = Jvm.exec → c.code = bytes → c.maxLocals = maxL → Z.Warmed39 s.vm → s.vm.findClass y.cls = some m.cls → meth.name = y.name → meth.sig.returnType = ret → meth.locks = false →
      Stand p l e rm s m as' below meth c s₁ [] 0 0 → s₁.heap = h0 → Go p e below s rm.cells rm.slots Q (s₁.setTop (gf m))) : Con l Z y bytes maxL ret rm as' h0 Q := by
  intro ws
  refine MetFree.of_bodySF hpl hisR ?_
  intro p e s m args below meth c s₁ Bd hml hP hK
  obtain ⟨rfl, hZ, hh⟩ := hP
  have k := body p e s m below meth c s₁ Bd.exec Bd.bytes hml hZ (findClass_of_methodNamed Bd.named) (name_of_methodNamed Bd.named Bd.method).1 Bd.returns Bd.notSynchronized (Stand.of_body Bd) (by rw [← hh, Bd.state]; rfl)
  rw [← hef m] at k
  exact k
theorem Go.static (X : Stand p l e R s m args below meth c T locs cells slots) (hx : p.tables.exec = Jvm.exec) (hZ : Z.Warmed39 s.vm) {own : String} {index : Nat} {y : MethodName} {bytes : ByteArray} {maxL : Nat} {ret : Option FieldType} {rm : Room} {Q' : Option Value → Heap → List Loc → Prop} {argsL : List Value}
    (hown : s.vm.findClass own = some m.cls) (w1 : (Cond.methodLink own index y).before a0 Z = true) (w2 : (Cond.static y).before a0 Z = true) (w3 : (Cond.initialized y.cls).before a0 Z = true) (w4 : (Cond.code y bytes maxL ret).before a0 Z = true)
    (hy : y.cls ≠ "java/lang/invoke/MethodHandle" ∧ y.cls ≠ "java/lang/invoke/VarHandle") (W : Nat) (eT : T.heap = h) (K : Con l Z y bytes maxL ret rm argsL.toArray h Q') (hf : rm.frames + 1 ≤ R.frames) (hlo : W + (maxL + 11) + rm.locals ≤ R.locals) (hc : cells + rm.cells ≤ R.cells) (hs : slots + rm.slots ≤ R.slots)
    {g : JFrame} (hg : g.method = m) (hsize : g.locals.size = c.maxLocals) {rest : List Value} (hlen : ∀ sig, parseMethodDescriptor y.desc = some sig → argsL.length = sig.parameters.length) (hstack : g.stack = argsL.reverse ++ rest) (hW : 2 * g.monitorRoom + (rest.map fun v => v.category).sum ≤ W)
    (hd : decode c.code g.pc = .ok (.invokestatic index, 3))
    (k : ∀ (T' : State) (v : Option Value) (L : List Loc), Stand p l e R s m args below meth c T' (locs ++ L) (cells + rm.cells) (slots + rm.slots) → Q' v T'.heap L → Go p e below s kc ks Q (T'.setTop { g with pc := g.pc + 3, stack := v.toList ++ rest })) : Go p e below s kc ks Q (T.setTop g) := by
  obtain ⟨v, _, ⟨T', L', k', n'⟩, -, X', ⟨Lc, hQ, l1, l2, l3⟩, st⟩ := Jvm.LawKit.callS X hx hown (mvT hZ w1) (mvT hZ w2) (mvT hZ w3) (mvT hZ w4) hy (backOf (W := W) (K []) hZ w4 w3 hf hlo) hg hsize hlen hstack hW hd (fun _ _ => ⟨rfl, eT, hc, hs⟩)
  dsimp only [Pt.U, Pt.locs, Pt.cells, Pt.slots] at X' l1 l2 l3 st hQ
  subst l1 l2 l3
  exact Go.of st (k T' v Lc X' hQ)
theorem Go.special (X : Stand p l e R s m args below meth c T locs cells slots) (hx : p.tables.exec = Jvm.exec) (hZ : Z.Warmed39 s.vm) {own : String} {index : Nat} {y : MethodName} {bytes : ByteArray} {maxL : Nat} {rm : Room} {Q' : Option Value → Heap → List Loc → Prop} {a : Addr} {argsL : List Value} (hy1 : y.name = "<init>")
    (hown : s.vm.findClass own = some m.cls) (w1 : (Cond.methodLink own index y).before a0 Z = true) (w2 : (Cond.instanceMethod y).before a0 Z = true) (w3 : (Cond.initialized y.cls).before a0 Z = true) (w4 : (Cond.code y bytes maxL none).before a0 Z = true)
    (hy : y.cls ≠ "java/lang/invoke/MethodHandle" ∧ y.cls ≠ "java/lang/invoke/VarHandle") (W : Nat) (eT : T.heap = h) (K : Con l Z y bytes maxL none rm (Value.ref a :: argsL).toArray h Q') (hf : rm.frames + 1 ≤ R.frames) (hlo : W + (maxL + 11) + rm.locals ≤ R.locals) (hc : cells + rm.cells ≤ R.cells) (hs : slots + rm.slots ≤ R.slots)
    {g : JFrame} (hg : g.method = m) (hsize : g.locals.size = c.maxLocals) {rest : List Value} (hlen : ∀ sig, parseMethodDescriptor y.desc = some sig → argsL.length = sig.parameters.length) (hstack : g.stack = argsL.reverse ++ .ref a :: rest) (hW : 2 * g.monitorRoom + (rest.map fun v => v.category).sum ≤ W)
    (hd : decode c.code g.pc = .ok (.invokespecial index, 3))
    (k : ∀ (T' : State) (v : Option Value) (L : List Loc), Stand p l e R s m args below meth c T' (locs ++ L) (cells + rm.cells) (slots + rm.slots) → Q' v T'.heap L → Go p e below s kc ks Q (T'.setTop { g with pc := g.pc + 3, stack := v.toList ++ rest })) : Go p e below s kc ks Q (T.setTop g) := by
  obtain ⟨v, _, ⟨T', L', k', n'⟩, -, X', ⟨Lc, hQ, l1, l2, l3⟩, st⟩ := X.specialBack hx hy1 hown (mvT hZ w1) (mvT hZ w2) (mvT hZ w4) hy (backOf (W := W) (K []) hZ w4 w3 hf hlo) hg hsize (Steps.refl _) hlen hstack hW hd (fun _ _ => ⟨rfl, eT, hc, hs⟩)
  dsimp only [Pt.U, Pt.locs, Pt.cells, Pt.slots] at X' l1 l2 l3 st hQ
  subst l1 l2 l3
  exact Go.of (fun _ q => st.trans q) (k T' v Lc X' hQ)
theorem Go.virtual (X : Stand p l e R s m args below meth c T locs cells slots) (hx : p.tables.exec = Jvm.exec) (hZ : Z.Warmed39 s.vm) {own C : String} {index : Nat} {y z : MethodName} {bytes : ByteArray} {maxL : Nat} {ret : Option FieldType} {rm : Room} {Q' : Option Value → Heap → List Loc → Prop} {a : Addr} {argsL : List Value}
    (hown : s.vm.findClass own = some m.cls) (w1 : (Cond.methodLink own index y).before a0 Z = true) (w2 : (Cond.declares y).before a0 Z = true) (hnf : NotFace s y) (w5 : (Cond.selects C y z).before a0 Z = true) (w6 : (Cond.instanceMethod z).before a0 Z = true) (w3 : (Cond.initialized z.cls).before a0 Z = true) (w4 : (Cond.code z bytes maxL ret).before a0 Z = true)
    (hy : y.cls ≠ "java/lang/invoke/MethodHandle" ∧ y.cls ≠ "java/lang/invoke/VarHandle") (W : Nat) (eT : T.heap = h) (E : Exa Z h a C) (K : Con l Z z bytes maxL ret rm (Value.ref a :: argsL).toArray h Q') (hf : rm.frames + 1 ≤ R.frames) (hlo : W + (maxL + 11) + rm.locals ≤ R.locals) (hc : cells + rm.cells ≤ R.cells) (hs : slots + rm.slots ≤ R.slots)
    {g : JFrame} (hg : g.method = m) (hsize : g.locals.size = c.maxLocals) {rest : List Value} (hlen : ∀ sig, parseMethodDescriptor y.desc = some sig → argsL.length = sig.parameters.length) (hstack : g.stack = argsL.reverse ++ .ref a :: rest) (hW : 2 * g.monitorRoom + (rest.map fun v => v.category).sum ≤ W)
    (hd : decode c.code g.pc = .ok (.invokevirtual index, 3))
    (k : ∀ (T' : State) (v : Option Value) (L : List Loc), Stand p l e R s m args below meth c T' (locs ++ L) (cells + rm.cells) (slots + rm.slots) → Q' v T'.heap L → Go p e below s kc ks Q (T'.setTop { g with pc := g.pc + 3, stack := v.toList ++ rest })) : Go p e below s kc ks Q (T.setTop g) := by
  obtain ⟨cq, kq, qa, -, qc⟩ := isOf hZ eT E
  obtain ⟨v, _, ⟨T', L', k', n'⟩, -, X', ⟨Lc, hQ, l1, l2, l3⟩, st⟩ := X.virtualBack hx hown (mvT hZ w1) (mvT hZ w2) hnf (mvT hZ w5) (mvT hZ w6) hy (backOf (W := W) (K []) hZ w4 w3 hf hlo) qa qc hg hsize (Steps.refl _) hlen hstack hW hd (fun _ _ => ⟨rfl, eT, hc, hs⟩)
  dsimp only [Pt.U, Pt.locs, Pt.cells, Pt.slots] at X' l1 l2 l3 st hQ
  subst l1 l2 l3
  exact Go.of (fun _ q => st.trans q) (k T' v Lc X' hQ)
theorem Go.virtualUp (X : Stand p l e R s m args below meth c T locs cells slots) (hx : p.tables.exec = Jvm.exec) (hZ : Z.Warmed39 s.vm) {own C owner : String} {index : Nat} {y z : MethodName} {bytes : ByteArray} {maxL : Nat} {ret : Option FieldType} {rm : Room} {Q' : Option Value → Heap → List Loc → Prop} {a : Addr} {argsL : List Value}
    (hown : s.vm.findClass own = some m.cls) (w1 : (Cond.methodLink own index y).before a0 Z = true) (w2 : (Cond.sameMethod y.cls owner y.name y.desc).before a0 Z = true) (w7 : (Cond.declares ⟨owner, y.name, y.desc⟩).before a0 Z = true) (w5 : (Cond.selects C y z).before a0 Z = true) (w6 : (Cond.instanceMethod z).before a0 Z = true) (w3 : (Cond.initialized z.cls).before a0 Z = true) (w4 : (Cond.code z bytes maxL ret).before a0 Z = true)
    (hy : owner ≠ "java/lang/invoke/MethodHandle" ∧ owner ≠ "java/lang/invoke/VarHandle") (W : Nat) (eT : T.heap = h) (E : Exa Z h a C) (K : Con l Z z bytes maxL ret rm (Value.ref a :: argsL).toArray h Q') (hf : rm.frames + 1 ≤ R.frames) (hlo : W + (maxL + 11) + rm.locals ≤ R.locals) (hc : cells + rm.cells ≤ R.cells) (hs : slots + rm.slots ≤ R.slots)
    {g : JFrame} (hg : g.method = m) (hsize : g.locals.size = c.maxLocals) {rest : List Value} (hlen : ∀ sig, parseMethodDescriptor y.desc = some sig → argsL.length = sig.parameters.length) (hstack : g.stack = argsL.reverse ++ .ref a :: rest) (hW : 2 * g.monitorRoom + (rest.map fun v => v.category).sum ≤ W)
    (hd : decode c.code g.pc = .ok (.invokevirtual index, 3))
    (k : ∀ (T' : State) (v : Option Value) (L : List Loc), Stand p l e R s m args below meth c T' (locs ++ L) (cells + rm.cells) (slots + rm.slots) → Q' v T'.heap L → Go p e below s kc ks Q (T'.setTop { g with pc := g.pc + 3, stack := v.toList ++ rest })) : Go p e below s kc ks Q (T.setTop g) := by
  obtain ⟨cq, kq, qa, -, qc⟩ := isOf hZ eT E
  obtain ⟨v, _, ⟨T', L', k', n'⟩, -, X', ⟨Lc, hQ, l1, l2, l3⟩, st⟩ := X.virtualBackUp hx hown (mvT hZ w1) (mvT hZ w2) (mvT hZ w7) hy (mvT hZ w5) (mvT hZ w6) (backOf (W := W) (K []) hZ w4 w3 hf hlo) qa qc hg hsize (Steps.refl _) hlen hstack hW hd (fun _ _ => ⟨rfl, eT, hc, hs⟩)
  dsimp only [Pt.U, Pt.locs, Pt.cells, Pt.slots] at X' l1 l2 l3 st hQ
  subst l1 l2 l3
  exact Go.of (fun _ q => st.trans q) (k T' v Lc X' hQ)
/-- a cast of what may be null -/
theorem castV (X : Stand p l e R s m args below meth c T locs cells slots) (hx : p.tables.exec = Jvm.exec) (hZ : Z.Warmed39 s.vm) {own K : String} {index : Nat} (hown : s.vm.findClass own = some m.cls) (w : (Cond.classLink own index K).before a0 Z = true) (eT : T.heap = h) {v : Value} (F : v = .null ∨ ∃ a, v = .ref a ∧ Ins Z h a K true)
    {g : JFrame} (hg : g.method = m) {rest : List Value} (hs : g.stack = v :: rest) (hd : decode c.code g.pc = .ok (.checkcast index, 3)) : ∃ T', Stand p l e R s m args below meth c T' locs cells slots ∧ T'.heap = h ∧ ∀ target, Steps p.tables e below (T'.setTop { g with pc := g.pc + 3 }) target → Steps p.tables e below (T.setTop g) target := by
  rcases F with rfl | ⟨a, rfl, I⟩
  · exact ⟨T, X, eT, fun target q => X.checkcastNull hx hg hs hd target q⟩
  · exact castY X hx hZ hown w eT I hg hs hd
end Kit
end Jvm.OwnKit
namespace Jvm.OwnKit
open Sem ClassFile Op Lib Jvm.Stand Jvm.Free Jvm.LawKit Jvm.RoadKit
section Arrays
variable {p : Program} {l : Launch} {e : Env} {R : Room} {s : State} {m : MethodId} {args : Array Value} {below : List Frame} {meth : Method} {c : Code} {T : State} {locs : List Loc} {cells slots : Nat} {Z : State} {a0 : Array Value} {h h' : Heap} {a b : Addr} {k : ClassId} {ty : FieldType} {n i : Nat} {f : Nat → Value} {sl : Nat} {v w : Value} {ws : List Addr} {j : Int32}
/-- the array at a: its class, its kind, its length, what it holds -/
def AF (Z : State) (h : Heap) (a : Addr) (k : ClassId) (ty : FieldType) (n : Nat) (f : Nat → Value) : Prop :=
  ∃ c : Cell, Arr Z h a c ty ∧ c.cls = k ∧ c.slots.size = n ∧ n < 2 ^ 31 ∧ ∀ i, i < n → c.slots[i]? = some (f i)
def updV (f : Nat → Value) (i : Nat) (v : Value) : Nat → Value := fun k => if k = i then v else f k
def upI (f : Nat → Int32) (i : Nat) (v : Int32) : Nat → Int32 := fun k => if k = i then v else f k
/-- the index j is the place i of an array of n -/
def Ix (j : Int32) (i n : Nat) : Prop := j.toNatClampNeg = i ∧ ¬ j < 0 ∧ i < n
theorem Ix.not_out {c : Cell} (q : Ix j i n) (S : c.slots.size = n) : ¬ (j < 0 ∨ c.slots.size ≤ j.toNatClampNeg) := by
  obtain ⟨q1, q2, q3⟩ := q
  rintro (r | r)
  · exact q2 r
  · rw [q1, S] at r; exact absurd q3 (Nat.not_lt.mpr r)
theorem AF.new {z : Int32} {d : Value} (A : Arr Z h a (newA k ty z) ty) (q : ¬ z < 0) (e : z.toNatClampNeg = n) (hd : defaultValue ty = d) : AF Z h a k ty n (fun _ => d) :=
  ⟨_, A, rfl, by rw [sz_new, e], by rw [← e]; exact (back32 q).2, fun i hi => by simp [newA, e, hi, hd]⟩
theorem AF.lt (F : AF Z h a k ty n f) : a < h.size := by obtain ⟨c, A, -⟩ := F; exact A.lt
theorem AF.ext (F : AF Z h a k ty n f) (E : Ext h h') : AF Z h' a k ty n f := by obtain ⟨c, A, r⟩ := F; exact ⟨c, A.ext E, r⟩
theorem AF.other (F : AF Z h b k ty n f) (W : Wr h h' a sl v) (q : b ≠ a) : AF Z h' b k ty n f := by obtain ⟨c, A, r⟩ := F; exact ⟨c, A.other W q, r⟩
theorem AF.keep (F : AF Z h a k ty n f) (K : Keep h h' ws) (q : a ∉ ws) : AF Z h' a k ty n f := by obtain ⟨c, A, r⟩ := F; exact ⟨c, ⟨K.2.1 a c A.1 q, A.2⟩, r⟩
theorem AF.cast {g : Nat → Value} (F : AF Z h a k ty n f) (q : ∀ i, i < n → f i = g i) : AF Z h a k ty n g := by obtain ⟨c, A, r1, r2, r3, H⟩ := F; exact ⟨c, A, r1, r2, r3, fun i hi => by rw [H i hi, q i hi]⟩
theorem AF.set (F : AF Z h a k ty n f) (W : Wr h h' a j.toNatClampNeg v) (q : Ix j i n) : AF Z h' a k ty n (updV f i v) := by
  obtain ⟨c, A, r1, r2, r3, H⟩ := F
  refine ⟨_, Arr.same W A, r1, by rw [sz_set]; exact r2, r3, fun x hx => ?_⟩
  rw [q.1]
  by_cases e : x = i
  · subst e
    simp [Cell.setSlot, updV, r2, hx]
  · have : (c.setSlot i v).slots[x]? = c.slots[x]? := Array.getElem?_setIfInBounds_ne (Ne.symm e)
    rw [this, H x hx]; simp [updV, e]
theorem AF.toI {g : Nat → Int32} {x : Int32} (F : AF Z h a k ty n (updV (fun i => .int (g i)) i (.int x))) : AF Z h a k ty n (fun j => .int ((upI g i x) j)) := F.cast fun j _ => by simp only [updV, upI]; split <;> rfl
theorem AF.length (F : AF Z h a k ty n f) (X : Stand p l e R s m args below meth c T locs cells slots) (hx : p.tables.exec = Jvm.exec) (hZ : Z.Warmed39 s.vm) (eT : T.heap = h) {z : Int32} (hz : n.toInt32 = z) {g : JFrame} (hg : g.method = m) {rest : List Value} (hs : g.stack = .ref a :: rest) (hd : decode c.code g.pc = .ok (.arraylength, 1)) {target : State}
    (q : Steps p.tables e below (T.setTop { g with pc := g.pc + 1, stack := .int z :: rest }) target) : Steps p.tables e below (T.setTop g) target := by
  obtain ⟨cl, A, r1, r2, r3, H⟩ := F
  refine X.arraylength hx (by rw [eT]; exact A.1) (State.isArrayOf_alike hZ.alike A.2.1) hg hs hd _ ?_
  rw [r2, hz]
  exact q
theorem AF.iaload (F : AF Z h a k .int n f) (X : Stand p l e R s m args below meth c T locs cells slots) (hx : p.tables.exec = Jvm.exec) (hZ : Z.Warmed39 s.vm) (eT : T.heap = h) (hi : Ix j i n) (hv : f i = v) {g : JFrame} (hg : g.method = m) {rest : List Value} (hs : g.stack = .int j :: .ref a :: rest) (hd : decode c.code g.pc = .ok (.iaload, 1)) {target : State}
    (q : Steps p.tables e below (T.setTop { g with pc := g.pc + 1, stack := v :: rest }) target) : Steps p.tables e below (T.setTop g) target := by
  obtain ⟨cl, A, r1, r2, r3, H⟩ := F
  exact X.iaload hx (by rw [eT]; exact A.1) (State.isArrayOf_alike hZ.alike A.2.1) A.2.2 (hi.not_out r2) (by rw [hi.1, H i hi.2.2, hv]) hg hs hd _ q
theorem AF.caload (F : AF Z h a k .char n f) (X : Stand p l e R s m args below meth c T locs cells slots) (hx : p.tables.exec = Jvm.exec) (hZ : Z.Warmed39 s.vm) (eT : T.heap = h) (hi : Ix j i n) (hv : f i = v) {g : JFrame} (hg : g.method = m) {rest : List Value} (hs : g.stack = .int j :: .ref a :: rest) (hd : decode c.code g.pc = .ok (.caload, 1)) {target : State}
    (q : Steps p.tables e below (T.setTop { g with pc := g.pc + 1, stack := v :: rest }) target) : Steps p.tables e below (T.setTop g) target := by
  obtain ⟨cl, A, r1, r2, r3, H⟩ := F
  exact X.caload hx (by rw [eT]; exact A.1) (State.isArrayOf_alike hZ.alike A.2.1) A.2.2 (hi.not_out r2) (by rw [hi.1, H i hi.2.2, hv]) hg hs hd _ q
theorem AF.baload (F : AF Z h a k .byte n f) (X : Stand p l e R s m args below meth c T locs cells slots) (hx : p.tables.exec = Jvm.exec) (hZ : Z.Warmed39 s.vm) (eT : T.heap = h) (hi : Ix j i n) (hv : f i = v) {g : JFrame} (hg : g.method = m) {rest : List Value} (hs : g.stack = .int j :: .ref a :: rest) (hd : decode c.code g.pc = .ok (.baload, 1)) {target : State}
    (q : Steps p.tables e below (T.setTop { g with pc := g.pc + 1, stack := v :: rest }) target) : Steps p.tables e below (T.setTop g) target := by
  obtain ⟨cl, A, r1, r2, r3, H⟩ := F
  exact X.baloadBytes hx (by rw [eT]; exact A.1) (State.isArrayOf_alike hZ.alike A.2.1) A.2.2 (hi.not_out r2) (by rw [hi.1, H i hi.2.2, hv]) hg hs hd _ q
theorem AF.aaload (F : AF Z h a k ty n f) (hty : ty.isReference = true) (X : Stand p l e R s m args below meth c T locs cells slots) (hx : p.tables.exec = Jvm.exec) (hZ : Z.Warmed39 s.vm) (eT : T.heap = h) (hi : Ix j i n) (hv : f i = v) {g : JFrame} (hg : g.method = m) {rest : List Value} (hs : g.stack = .int j :: .ref a :: rest) (hd : decode c.code g.pc = .ok (.aaload, 1)) {target : State}
    (q : Steps p.tables e below (T.setTop { g with pc := g.pc + 1, stack := v :: rest }) target) : Steps p.tables e below (T.setTop g) target := by
  obtain ⟨cl, A, r1, r2, r3, H⟩ := F
  exact X.aaload hx (by rw [eT]; exact A.1) (State.isArrayOf_alike hZ.alike A.2.1) hty A.2.2 (hi.not_out r2) (by rw [hi.1, H i hi.2.2, hv]) hg hs hd _ q
theorem AF.iastore (F : AF Z h a k .int n f) (X : Stand p l e R s m args below meth c T locs cells slots) (hx : p.tables.exec = Jvm.exec) (hZ : Z.Warmed39 s.vm) (eT : T.heap = h) (hi : Ix j i n) {x : Int32} {g : JFrame} (hg : g.method = m) {rest : List Value} (hs : g.stack = .int x :: .int j :: .ref a :: rest) (hd : decode c.code g.pc = .ok (.iastore, 1)) :
    ∃ T' h', Stand p l e R s m args below meth c T' (locs ++ [⟨a, j.toNatClampNeg⟩]) cells slots ∧ T'.heap = h' ∧ Wr h h' a j.toNatClampNeg (.int x) ∧ AF Z h' a k .int n (updV f i (.int x)) ∧ ∀ target, Steps p.tables e below (T'.setTop { g with pc := g.pc + 1, stack := rest }) target → Steps p.tables e below (T.setTop g) target := by
  have F0 := F
  obtain ⟨cl, A, r1, r2, r3, H⟩ := F
  obtain ⟨T', h', X', e', W', st'⟩ := stI X hx hZ eT A (hi.not_out r2) hg hs hd
  exact ⟨T', h', X', e', W', F0.set W' hi, st'⟩
theorem AF.castore (F : AF Z h a k .char n f) (X : Stand p l e R s m args below meth c T locs cells slots) (hx : p.tables.exec = Jvm.exec) (hZ : Z.Warmed39 s.vm) (eT : T.heap = h) (hi : Ix j i n) {x : Int32} {g : JFrame} (hg : g.method = m) {rest : List Value} (hs : g.stack = .int x :: .int j :: .ref a :: rest) (hd : decode c.code g.pc = .ok (.castore, 1)) :
    ∃ T' h', Stand p l e R s m args below meth c T' (locs ++ [⟨a, j.toNatClampNeg⟩]) cells slots ∧ T'.heap = h' ∧ Wr h h' a j.toNatClampNeg (.int (nar .char x)) ∧ AF Z h' a k .char n (updV f i (.int (nar .char x))) ∧ ∀ target, Steps p.tables e below (T'.setTop { g with pc := g.pc + 1, stack := rest }) target → Steps p.tables e below (T.setTop g) target := by
  have F0 := F
  obtain ⟨cl, A, r1, r2, r3, H⟩ := F
  obtain ⟨T', h', X', e', W', st'⟩ := stC X hx hZ eT A (hi.not_out r2) hg hs hd
  exact ⟨T', h', X', e', W', F0.set W' hi, st'⟩
theorem AF.bastore (F : AF Z h a k .byte n f) (X : Stand p l e R s m args below meth c T locs cells slots) (hx : p.tables.exec = Jvm.exec) (hZ : Z.Warmed39 s.vm) (eT : T.heap = h) (hi : Ix j i n) {x : Int32} {g : JFrame} (hg : g.method = m) {rest : List Value} (hs : g.stack = .int x :: .int j :: .ref a :: rest) (hd : decode c.code g.pc = .ok (.bastore, 1)) :
    ∃ T' h', Stand p l e R s m args below meth c T' (locs ++ [⟨a, j.toNatClampNeg⟩]) cells slots ∧ T'.heap = h' ∧ Wr h h' a j.toNatClampNeg (.int x.toInt8.toInt32) ∧ AF Z h' a k .byte n (updV f i (.int x.toInt8.toInt32)) ∧ ∀ target, Steps p.tables e below (T'.setTop { g with pc := g.pc + 1, stack := rest }) target → Steps p.tables e below (T.setTop g) target := by
  have F0 := F
  obtain ⟨cl, A, r1, r2, r3, H⟩ := F
  obtain ⟨T', h', X', e', W', st'⟩ := stB X hx hZ eT A (hi.not_out r2) hg hs hd
  exact ⟨T', h', X', e', W', F0.set W' hi, st'⟩
theorem AF.aastore (F : AF Z h a k ty n f) (hty : ty.isReference = true) (X : Stand p l e R s m args below meth c T locs cells slots) (hx : p.tables.exec = Jvm.exec) (hZ : Z.Warmed39 s.vm) (eT : T.heap = h) (hi : Ix j i n) (hsto : Sto Z h a v) {g : JFrame} (hg : g.method = m) {rest : List Value} (hs : g.stack = v :: .int j :: .ref a :: rest) (hd : decode c.code g.pc = .ok (.aastore, 1)) :
    ∃ T' h', Stand p l e R s m args below meth c T' (locs ++ [⟨a, j.toNatClampNeg⟩]) cells slots ∧ T'.heap = h' ∧ Wr h h' a j.toNatClampNeg v ∧ AF Z h' a k ty n (updV f i v) ∧ ∀ target, Steps p.tables e below (T'.setTop { g with pc := g.pc + 1, stack := rest }) target → Steps p.tables e below (T.setTop g) target := by
  have F0 := F
  obtain ⟨cl, A, r1, r2, r3, H⟩ := F
  obtain ⟨T', h', X', e', W', st'⟩ := stR X hx hZ eT A (hi.not_out r2) hty hsto hg hs hd
  exact ⟨T', h', X', e', W', F0.set W' hi, st'⟩
theorem AF.sto {C : String} {y : Addr} (F : AF Z h a k ty n f) (O : Ovr Z k C) (I : Ins Z h y C true) : Sto Z h a (.ref y) := by
  obtain ⟨cl, A, r1, -⟩ := F
  exact Sto.ofV A r1 O I
end Arrays
end Jvm.OwnKit
namespace Jvm.Pilot.@@N@@
open Jvm Jvm.ClassFile Sem Op Lib Jvm.Free Jvm.Stand Jvm.LawKit Jvm.RoadKit Jvm.OwnKit Bundle Jvm.Pilot.@@N@@.Jvm.D
theorem eqi_no {args : Array Value} {first s : State} {o : Option Outcome} {idx : List Nat} {t : Term} {n x : Int32} (h : (Jvm.Cond.not (Jvm.Cond.eq t (.int n))).value args first o s idx = some true) (e : t.eval args first o idx s = some (.int x)) : ¬ x = n := by
  have q := not_v h
  intro r
  subst r
  simp [Cond.value, e, Term.eval] at q
theorem own_nar {x : Int32} (h : x = 0 ∨ x = 1) : narrow .boolean (.int x) = .int x := by rcases h with rfl | rfl <;> rfl
theorem own_fit {x : Int32} (h : x = 0 ∨ x = 1) : fits .boolean (.int x) = true := by rcases h with rfl | rfl <;> rfl
theorem own_nz {x : Int32} (h : x = 0 ∨ x = 1) : nar .boolean x = x := by rcases h with rfl | rfl <;> rfl
theorem own_flag {P : Prop} [Decidable P] {z : Int32} (h : z = if P then (0 : Int32) else (1 : Int32)) : z = 0 ∨ z = 1 := by
  subst h
  split
  · exact Or.inl rfl
  · exact Or.inr rfl
theorem own_chr (y : Int32) : ¬ (255 : Int32) < (y &&& (255 : Int32)).toUInt32.toUInt16.toUInt32.toInt32 := by
  rw [i2c_mask, Int32.lt_iff_toInt_lt]
  have := (c_and y 255 (by decide)).2
  have e : (255 : Int32).toInt = 255 := by decide
  omega
theorem d2_0 : decode jdk_43_method_3_code 0 = .ok (.iload_n 0, 1) := by decide +kernel
theorem d2_1 : decode jdk_43_method_3_code 1 = .ok (.sipush 255, 3) := by decide +kernel
theorem d2_4 : decode jdk_43_method_3_code 4 = .ok (.if_icmp .gt 7, 3) := by decide +kernel
theorem d2_7 : decode jdk_43_method_3_code 7 = .ok (.iconst 1, 1) := by decide +kernel
theorem d2_8 : decode jdk_43_method_3_code 8 = .ok (.goto 4, 3) := by decide +kernel
theorem d2_12 : decode jdk_43_method_3_code 12 = .ok (.ireturn, 1) := by decide +kernel
theorem pn0 : plainName "java/lang/StringLatin1" = true := by first | (simp [plainName, overriddenIn]; done) | decide +kernel
theorem ef_2 (m : MethodId) (x1 : Int32) : entryFrame m #[(.int x1)] 1 = mkF m 0 #[.val (.int x1)] [] := by first | (simp [entryFrame, mkF, argsToLocals, Value.category]; done) | rfl
def Q2 (Z : State) (x1 : Int32) (h0 : Heap) (n0 : Nat) (v : Option Value) (h : Heap) (L : List Loc) : Prop := v = some (.int (1 : Int32)) ∧ Fr n0 L ∧ h = h0
set_option maxRecDepth 65536 in
set_option maxHeartbeats 40000000 in
theorem rm2 (l : Launch) (Z : State) (a0 : Array Value) (hw : ∀ d ∈ tables_1, d.before a0 Z = true) (x1 : Int32) (h0 : Heap) (n0 : Nat) (Zs : n0 ≤ h0.size) (hx1 : ¬ (255 : Int32) < x1) :
    Con l Z (⟨"java/lang/StringLatin1", "canEncode", "(C)Z"⟩ : MethodName) jdk_43_method_3_code 1 (some .boolean) ({ frames := 0, cells := 0, slots := 0, locals := 0 } : Room) #[(.int x1)] h0 (Q2 Z x1 h0 n0) := by
  refine Con.intro (plainFor_of_name pn0) (fun m => ef_2 m x1) ?_
  intro p e s m below meth c s₁ hx hby hml0 hZ hown hnm hret hlk X0 e0
  have hml : c.maxLocals = 1 := hml0
  have N0 := Fr.nil n0
  have Kp : Keep h0 h0 [] := Keep.refl h0 _
  show Go _ _ _ _ _ _ _ (s₁.setTop (mkF m 0 #[.val (.int x1)] []))
  refine Go.of (fun _ q => XS.iloadN X0.here hx rfl (hb hby d2_0) rfl q) ?_
  show Go _ _ _ _ _ _ _ (s₁.setTop (mkF m 1 #[.val (.int x1)] [(.int x1)]))
  refine Go.of (fun _ q => XS.sipush X0.here hx rfl (hb hby d2_1) q) ?_
  show Go _ _ _ _ _ _ _ (s₁.setTop (mkF m 4 #[.val (.int x1)] [(.int (255 : Int32)), (.int x1)]))
  refine Go.of (fun _ q => XS.icmpNo X0.here hx rfl (hb hby d2_4) rfl (flt hx1).2.2.1 q) ?_
  show Go _ _ _ _ _ _ _ (s₁.setTop (mkF m 7 #[.val (.int x1)] []))
  refine Go.of (fun _ q => XS.iconst X0.here hx rfl (hb hby d2_7) q) ?_
  show Go _ _ _ _ _ _ _ (s₁.setTop (mkF m 8 #[.val (.int x1)] [(.int (1 : Int32))]))
  refine Go.of (fun _ q => XS.goto X0.here hx rfl (pc0 := 8) (pc' := 12) rfl (hb hby d2_8) (by decide) (by decide) q) ?_
  show Go _ _ _ _ _ _ _ (s₁.setTop (mkF m 12 #[.val (.int x1)] [(.int (1 : Int32))]))
  refine Go.retN X0 hx hlk (t := .boolean) hret (by simp) (hb hby d2_12) rfl (by decide) (by decide) ?_
  rw [e0]
  exact ⟨rfl, N0, rfl⟩
theorem d3_0 : decode jdk_43_method_46_code 0 = .ok (.iconst 1, 1) := by decide +kernel
theorem d3_1 : decode jdk_43_method_46_code 1 = .ok (.newarray .byte, 2) := by decide +kernel
theorem d3_3 : decode jdk_43_method_46_code 3 = .ok (.dup, 1) := by decide +kernel
theorem d3_4 : decode jdk_43_method_46_code 4 = .ok (.iconst 0, 1) := by decide +kernel
theorem d3_5 : decode jdk_43_method_46_code 5 = .ok (.iload_n 0, 1) := by decide +kernel
theorem d3_6 : decode jdk_43_method_46_code 6 = .ok (.i2b, 1) := by decide +kernel
theorem d3_7 : decode jdk_43_method_46_code 7 = .ok (.bastore, 1) := by decide +kernel
theorem d3_8 : decode jdk_43_method_46_code 8 = .ok (.areturn, 1) := by decide +kernel
theorem ef_3 (m : MethodId) (x1 : Int32) : entryFrame m #[(.int x1)] 1 = mkF m 0 #[.val (.int x1)] [] := by first | (simp [entryFrame, mkF, argsToLocals, Value.category]; done) | rfl
def Q3 (Z : State) (x1 : Int32) (h0 : Heap) (n0 : Nat) (v : Option Value) (h : Heap) (L : List Loc) : Prop := ∃ b : Addr, ∃ kb : ClassId, ∃ gb : Nat → Int32, v = some (.ref b) ∧ Fr n0 L ∧ Keep h0 h [] ∧ h0.size ≤ b ∧ AF Z h b kb .byte 1 (fun i => .int (gb i))
set_option maxRecDepth 65536 in
set_option maxHeartbeats 40000000 in
theorem rm3 (l : Launch) (Z : State) (a0 : Array Value) (hw : ∀ d ∈ tables_1, d.before a0 Z = true) (x1 : Int32) (h0 : Heap) (n0 : Nat) (Zs : n0 ≤ h0.size)  :
    Con l Z (⟨"java/lang/StringLatin1", "toBytes", "(C)[B"⟩ : MethodName) jdk_43_method_46_code 1 (some (.array .byte)) ({ frames := 0, cells := 1, slots := 1, locals := 0 } : Room) #[(.int x1)] h0 (Q3 Z x1 h0 n0) := by
  refine Con.intro (plainFor_of_name pn0) (fun m => ef_3 m x1) ?_
  intro p e s m below meth c s₁ hx hby hml0 hZ hown hnm hret hlk X0 e0
  have hml : c.maxLocals = 1 := hml0
  have N0 := Fr.nil n0
  have Kp : Keep h0 h0 [] := Keep.refl h0 _
  show Go _ _ _ _ _ _ _ (s₁.setTop (mkF m 0 #[.val (.int x1)] []))
  refine Go.of (fun _ q => XS.iconst X0.here hx rfl (hb hby d3_0) q) ?_
  show Go _ _ _ _ _ _ _ (s₁.setTop (mkF m 1 #[.val (.int x1)] [(.int (1 : Int32))]))
  obtain ⟨T1, h1, k1, X1, e1, E1, A1, B1, st1⟩ := newPE X0 hx hZ (hw _ (List.mem_of_getElem? (i := 14) rfl)) e0 (g := (mkF m 1 #[.val (.int x1)] [(.int (1 : Int32))])) rfl (hb hby d3_1) rfl (by decide) (cap := 1) (by decide) (by decide) (by decide) (by decide) (ad := "[B") (by decide)
  obtain ⟨b, g1⟩ : ∃ z, z = h0.size := ⟨_, rfl⟩
  rw [← g1] at A1 B1 st1
  refine Go.of st1 ?_
  have g_b : n0 ≤ b := Nat.le_trans Zs (Nat.le_of_eq g1.symm)
  have sz_b : h0.size ≤ b := Nat.le_trans Kp.1 (Nat.le_of_eq g1.symm)
  have Zs := Nat.le_trans Zs E1.1
  have Kp := Kp.ext E1
  have E_b := B1
  have A_b : AF Z h1 b k1 .byte 1 (fun i => .int ((fun _ => (0 : Int32)) i)) := AF.new A1 (by decide) rfl rfl
  show Go _ _ _ _ _ _ _ (T1.setTop (mkF m 3 #[.val (.int x1)] [(.ref b)]))
  refine Go.of (fun _ q => XS.dup X1.here hx rfl (hb hby d3_3) rfl rfl q) ?_
  show Go _ _ _ _ _ _ _ (T1.setTop (mkF m 4 #[.val (.int x1)] [(.ref b), (.ref b)]))
  refine Go.of (fun _ q => XS.iconst X1.here hx rfl (hb hby d3_4) q) ?_
  show Go _ _ _ _ _ _ _ (T1.setTop (mkF m 5 #[.val (.int x1)] [(.int (0 : Int32)), (.ref b), (.ref b)]))
  refine Go.of (fun _ q => XS.iloadN X1.here hx rfl (hb hby d3_5) rfl q) ?_
  show Go _ _ _ _ _ _ _ (T1.setTop (mkF m 6 #[.val (.int x1)] [(.int x1), (.int (0 : Int32)), (.ref b), (.ref b)]))
  refine Go.of (fun _ q => XS.i2b X1.here hx rfl (hb hby d3_6) rfl q) ?_
  show Go _ _ _ _ _ _ _ (T1.setTop (mkF m 7 #[.val (.int x1)] [(.int (x1.toInt8.toInt32)), (.int (0 : Int32)), (.ref b), (.ref b)]))
  obtain ⟨T2, h2, X2, e2, W2, A2', st2⟩ := AF.bastore A_b X1 hx hZ e1 (i := 0) ⟨rfl, by decide, by decide⟩ (g := (mkF m 7 #[.val (.int x1)] [(.int (x1.toInt8.toInt32)), (.int (0 : Int32)), (.ref b), (.ref b)])) rfl rfl (hb hby d3_7)
  refine Go.of st2 ?_
  have Zs := Nat.le_trans Zs (Nat.le_of_eq W2.size.symm)
  have Kp := Kp.wr W2 (Or.inr sz_b)
  have E_b := E_b.wr W2
  have A_b : AF Z h2 b k1 .byte 1 (fun i => .int ((upI (fun _ => (0 : Int32)) 0 ((x1.toInt8.toInt32).toInt8.toInt32)) i)) := A2'.toI
  have N2 := Fr.snoc X2 N0 g_b
  show Go _ _ _ _ _ _ _ (T2.setTop (mkF m 8 #[.val (.int x1)] [(.ref b)]))
  refine Go.retA X2 hx hlk hret rfl rfl (hb hby d3_8) (by decide) (by decide) ?_
  rw [e2]
  exact ⟨b, k1, (upI (fun _ => (0 : Int32)) 0 ((x1.toInt8.toInt32).toInt8.toInt32)), rfl, N2, Kp, sz_b, A_b⟩
theorem d4_0 : decode jdk_42_method_151_code 0 = .ok (.aload_n 0, 1) := by decide +kernel
theorem d4_1 : decode jdk_42_method_151_code 1 = .ok (.invokespecial 1, 3) := by decide +kernel
theorem d4_4 : decode jdk_42_method_151_code 4 = .ok (.aload_n 0, 1) := by decide +kernel
theorem d4_5 : decode jdk_42_method_151_code 5 = .ok (.aload_n 1, 1) := by decide +kernel
theorem d4_6 : decode jdk_42_method_151_code 6 = .ok (.putfield 9, 3) := by decide +kernel
theorem d4_9 : decode jdk_42_method_151_code 9 = .ok (.aload_n 0, 1) := by decide +kernel
theorem d4_10 : decode jdk_42_method_151_code 10 = .ok (.iload_n 2, 1) := by decide +kernel
theorem d4_11 : decode jdk_42_method_151_code 11 = .ok (.putfield 15, 3) := by decide +kernel
theorem d4_14 : decode jdk_42_method_151_code 14 = .ok (.return_, 1) := by decide +kernel
theorem pn1 : plainName "java/lang/String" = true := by first | (simp [plainName, overriddenIn]; done) | decide +kernel
theorem ef_4 (m : MethodId) (a : Addr) (b : Addr) : entryFrame m #[(.ref a), (.ref b), (.int (0 : Int32))] 3 = mkF m 0 #[.val (.ref a), .val (.ref b), .val (.int (0 : Int32))] [] := by first | (simp [entryFrame, mkF, argsToLocals, Value.category]; done) | rfl
def Q4 (Z : State) (a : Addr) (b : Addr) (u1 : Value) (u2 : Int32) (h0 : Heap) (n0 : Nat) (v : Option Value) (h : Heap) (L : List Loc) : Prop := v = none ∧ Fr n0 L ∧ Keep h0 h [a] ∧ Exa Z h a "java/lang/String"
set_option maxRecDepth 65536 in
set_option maxHeartbeats 40000000 in
theorem rm4 (l : Launch) (Z : State) (a0 : Array Value) (hw : ∀ d ∈ tables_1, d.before a0 Z = true) (a : Addr) (b : Addr) (u1 : Value) (u2 : Int32) (h0 : Heap) (n0 : Nat) (Zs : n0 ≤ h0.size) (E_a : Exa Z h0 a "java/lang/String") (F_a_value : Fld Z h0 a "java/lang/String" "value" "[B" u1) (F_a_coder : Fld Z h0 a "java/lang/String" "coder" "B" (.int u2)) (g_a : n0 ≤ a) :
    Con l Z (⟨"java/lang/String", "<init>", "([BB)V"⟩ : MethodName) jdk_42_method_151_code 3 none ({ frames := 1, cells := 0, slots := 0, locals := 12 } : Room) #[(.ref a), (.ref b), (.int (0 : Int32))] h0 (Q4 Z a b u1 u2 h0 n0) := by
  refine Con.intro (plainFor_of_name pn1) (fun m => ef_4 m a b) ?_
  intro p e s m below meth c s₁ hx hby hml0 hZ hown hnm hret hlk X0 e0
  have hml : c.maxLocals = 3 := hml0
  have N0 := Fr.nil n0
  have Kp : Keep h0 h0 [a] := Keep.refl h0 _
  show Go _ _ _ _ _ _ _ (s₁.setTop (mkF m 0 #[.val (.ref a), .val (.ref b), .val (.int (0 : Int32))] []))
  refine Go.of (fun _ q => XS.aloadN X0.here hx rfl (hb hby d4_0) rfl rfl q) ?_
  show Go _ _ _ _ _ _ _ (s₁.setTop (mkF m 1 #[.val (.ref a), .val (.ref b), .val (.int (0 : Int32))] [(.ref a)]))
  obtain ⟨T1, X1, e1, st1⟩ := initO X0 hx hZ hown (hw _ (List.mem_of_getElem? (i := 19) rfl)) (hw _ (List.mem_of_getElem? (i := 20) rfl)) (hw _ (List.mem_of_getElem? (i := 21) rfl)) e0 (g := (mkF m 1 #[.val (.ref a), .val (.ref b), .val (.int (0 : Int32))] [(.ref a)])) rfl (by rw [hml]; rfl) rfl (hb hby d4_1) (by decide) (W := 0) (by show 2 * 0 + _ ≤ _; exact Nat.le_of_eq rfl) (by decide)
  refine Go.of st1 ?_
  show Go _ _ _ _ _ _ _ (T1.setTop (mkF m 4 #[.val (.ref a), .val (.ref b), .val (.int (0 : Int32))] []))
  refine Go.of (fun _ q => XS.aloadN X1.here hx rfl (hb hby d4_4) rfl rfl q) ?_
  show Go _ _ _ _ _ _ _ (T1.setTop (mkF m 5 #[.val (.ref a), .val (.ref b), .val (.int (0 : Int32))] [(.ref a)]))
  refine Go.of (fun _ q => XS.aloadN X1.here hx rfl (hb hby d4_5) rfl rfl q) ?_
  show Go _ _ _ _ _ _ _ (T1.setTop (mkF m 6 #[.val (.ref a), .val (.ref b), .val (.int (0 : Int32))] [(.ref b), (.ref a)]))
  obtain ⟨T2, h2, X2, e2, W2, st2⟩ := putF X1 hx hZ hown (host := "") (Or.inl (hw _ (List.mem_of_getElem? (i := 22) rfl))) Via.refl e1 F_a_value E_a (Or.inr ⟨(hw _ (List.mem_of_getElem? (i := 23) rfl)), rfl, hnm⟩) (hw _ (List.mem_of_getElem? (i := 10) rfl)) (ty := (.array .byte)) (by decide) rfl rfl (g := (mkF m 6 #[.val (.ref a), .val (.ref b), .val (.int (0 : Int32))] [(.ref b), (.ref a)])) rfl rfl (hb hby d4_6)
  refine Go.of st2 ?_
  have Zs := Nat.le_trans Zs (Nat.le_of_eq W2.size.symm)
  have Kp := Kp.wr W2 (Or.inl (List.mem_of_getElem? (i := 0) rfl))
  have E_a := E_a.wr W2
  have F_a_value := F_a_value.same W2
  have F_a_coder := F_a_coder.other W2 (Or.inr (slot_ne (Or.inr (hw _ (List.mem_of_getElem? (i := 25) rfl))) (Or.inr (hw _ (List.mem_of_getElem? (i := 23) rfl))) (by decide) (t := .byte) (t' := (.array .byte)) (by decide) (by decide)))
  have N2 := Fr.snoc X2 N0 g_a
  show Go _ _ _ _ _ _ _ (T2.setTop (mkF m 9 #[.val (.ref a), .val (.ref b), .val (.int (0 : Int32))] []))
  refine Go.of (fun _ q => XS.aloadN X2.here hx rfl (hb hby d4_9) rfl rfl q) ?_
  show Go _ _ _ _ _ _ _ (T2.setTop (mkF m 10 #[.val (.ref a), .val (.ref b), .val (.int (0 : Int32))] [(.ref a)]))
  refine Go.of (fun _ q => XS.iloadN X2.here hx rfl (hb hby d4_10) rfl q) ?_
  show Go _ _ _ _ _ _ _ (T2.setTop (mkF m 11 #[.val (.ref a), .val (.ref b), .val (.int (0 : Int32))] [(.int (0 : Int32)), (.ref a)]))
  obtain ⟨T3, h3, X3, e3, W3, st3⟩ := putFN X2 hx hZ hown (hw _ (List.mem_of_getElem? (i := 24) rfl)) Via.refl e2 F_a_coder E_a (Or.inr ⟨(hw _ (List.mem_of_getElem? (i := 25) rfl)), rfl, hnm⟩) (hw _ (List.mem_of_getElem? (i := 10) rfl)) (ty := .byte) (v' := .int (0 : Int32)) (by decide) rfl rfl (g := (mkF m 11 #[.val (.ref a), .val (.ref b), .val (.int (0 : Int32))] [(.int (0 : Int32)), (.ref a)])) rfl rfl (hb hby d4_11)
  refine Go.of st3 ?_
  have Zs := Nat.le_trans Zs (Nat.le_of_eq W3.size.symm)
  have Kp := Kp.wr W3 (Or.inl (List.mem_of_getElem? (i := 0) rfl))
  have E_a := E_a.wr W3
  have F_a_value := F_a_value.other W3 (Or.inr (slot_ne (Or.inr (hw _ (List.mem_of_getElem? (i := 23) rfl))) (Or.inr (hw _ (List.mem_of_getElem? (i := 25) rfl))) (by decide) (t := (.array .byte)) (t' := .byte) (by decide) (by decide)))
  have F_a_coder := F_a_coder.same W3
  have N3 := Fr.snoc X3 N2 g_a
  show Go _ _ _ _ _ _ _ (T3.setTop (mkF m 14 #[.val (.ref a), .val (.ref b), .val (.int (0 : Int32))] []))
  refine Go.retV X3 hx hlk hret (hb hby d4_14) (by decide) (by decide) ?_
  rw [e3]
  exact ⟨rfl, N3, Kp, E_a⟩
theorem pd0 : parseMethodDescriptor "(C)Z" = some ⟨[.char], some .boolean⟩ := by decide +kernel
theorem pd1 : parseMethodDescriptor "(C)[B" = some ⟨[.char], some (.array .byte)⟩ := by decide +kernel
theorem pd2 : parseMethodDescriptor "([BB)V" = some ⟨[(.array .byte), .byte], none⟩ := by decide +kernel
theorem d1_0 : decode jdk_42_method_139_code 0 = .ok (.getstatic 38, 3) := by decide +kernel
theorem d1_3 : decode jdk_42_method_139_code 3 = .ok (.ifCond .eq 23, 3) := by decide +kernel
theorem d1_6 : decode jdk_42_method_139_code 6 = .ok (.iload_n 0, 1) := by decide +kernel
theorem d1_7 : decode jdk_42_method_139_code 7 = .ok (.invokestatic 1015, 3) := by decide +kernel
theorem d1_10 : decode jdk_42_method_139_code 10 = .ok (.ifCond .eq 16, 3) := by decide +kernel
theorem d1_13 : decode jdk_42_method_139_code 13 = .ok (.new 10, 3) := by decide +kernel
theorem d1_16 : decode jdk_42_method_139_code 16 = .ok (.dup, 1) := by decide +kernel
theorem d1_17 : decode jdk_42_method_139_code 17 = .ok (.iload_n 0, 1) := by decide +kernel
theorem d1_18 : decode jdk_42_method_139_code 18 = .ok (.invokestatic 1018, 3) := by decide +kernel
theorem d1_21 : decode jdk_42_method_139_code 21 = .ok (.iconst 0, 1) := by decide +kernel
theorem d1_22 : decode jdk_42_method_139_code 22 = .ok (.invokespecial 209, 3) := by decide +kernel
theorem d1_25 : decode jdk_42_method_139_code 25 = .ok (.areturn, 1) := by decide +kernel
theorem ef_1 (m : MethodId) (x1 : Int32) : entryFrame m #[(.int x1)] 1 = mkF m 0 #[.val (.int x1)] [] := by first | (simp [entryFrame, mkF, argsToLocals, Value.category]; done) | rfl
def Q1 (Z : State) (x1 : Int32) (cs : Int32) (h0 : Heap) (n0 : Nat) (v : Option Value) (h : Heap) (L : List Loc) : Prop := ∃ sa : Addr, v = some (.ref sa) ∧ Fr n0 L ∧ Keep h0 h [] ∧ h0.size ≤ sa ∧ Exa Z h sa "java/lang/String"
set_option maxRecDepth 65536 in
set_option maxHeartbeats 40000000 in
theorem rm1 (l : Launch) (Z : State) (a0 : Array Value) (hw : ∀ d ∈ tables_1, d.before a0 Z = true) (x1 : Int32) (cs : Int32) (h0 : Heap) (n0 : Nat) (Zs : n0 ≤ h0.size) (Od : Old Z n0 h0) (hx1 : ¬ (255 : Int32) < x1) (Scs : Sta Z Z.heap "java/lang/String" "COMPACT_STRINGS" "Z" (.int cs)) (hcs : ¬ cs = (0 : Int32)) :
    Con l Z (⟨"java/lang/String", "valueOf", "(C)Ljava/lang/String;"⟩ : MethodName) jdk_42_method_139_code 1 (some (.object "java/lang/String")) ({ frames := 2, cells := 2, slots := 5, locals := 27 } : Room) #[(.int x1)] h0 (Q1 Z x1 cs h0 n0) := by
  refine Con.intro (plainFor_of_name pn1) (fun m => ef_1 m x1) ?_
  intro p e s m below meth c s₁ hx hby hml0 hZ hown hnm hret hlk X0 e0
  have hml : c.maxLocals = 1 := hml0
  have N0 := Fr.nil n0
  have Kp : Keep h0 h0 [] := Keep.refl h0 _
  show Go _ _ _ _ _ _ _ (s₁.setTop (mkF m 0 #[.val (.int x1)] []))
  obtain ⟨T1, X1, e1, st1⟩ := getS2 X0 hx hZ hown (host := "") (Or.inl (hw _ (List.mem_of_getElem? (i := 4) rfl))) Via.refl e0 (Sta.ext Od.2 Scs) (g := (mkF m 0 #[.val (.int x1)] [])) rfl (hb hby d1_0)
  refine Go.of st1 ?_
  show Go _ _ _ _ _ _ _ (T1.setTop (mkF m 3 #[.val (.int x1)] [(.int cs)]))
  refine Go.of (fun _ q => XS.ifNo X1.here hx rfl (hb hby d1_3) rfl ((if0 _ _).trans (feq hcs).1) q) ?_
  show Go _ _ _ _ _ _ _ (T1.setTop (mkF m 6 #[.val (.int x1)] []))
  refine Go.of (fun _ q => XS.iloadN X1.here hx rfl (hb hby d1_6) rfl q) ?_
  show Go _ _ _ _ _ _ _ (T1.setTop (mkF m 7 #[.val (.int x1)] [(.int x1)]))
  refine Go.static X1 hx hZ (y := (⟨"java/lang/StringLatin1", "canEncode", "(C)Z"⟩ : MethodName)) (argsL := [(.int x1)]) hown (hw _ (List.mem_of_getElem? (i := 5) rfl)) (hw _ (List.mem_of_getElem? (i := 6) rfl)) (hw _ (List.mem_of_getElem? (i := 7) rfl)) (hw _ (List.mem_of_getElem? (i := 8) rfl)) (by decide) 0 e1 (rm2 l Z a0 hw x1 h0 n0 Zs hx1) (by decide) (by decide) (by decide) (by decide) (g := (mkF m 7 #[.val (.int x1)] [(.int x1)])) rfl (by rw [hml]; rfl) (rest := []) (lenOf pd0 rfl) rfl (by show 2 * 0 + _ ≤ _; exact Nat.le_of_eq rfl) (hb hby d1_7) ?_
  intro T2 v2 L2 X2 q2
  obtain ⟨rfl, Nq2, e2⟩ := q2
  have N2 := Fr.app N0 Nq2
  show Go _ _ _ _ _ _ _ (T2.setTop (mkF m 10 #[.val (.int x1)] [(.int (1 : Int32))]))
  refine Go.of (fun _ q => XS.ifNo X2.here hx rfl (hb hby d1_10) rfl ((if0 _ _).trans (feq (by decide)).1) q) ?_
  show Go _ _ _ _ _ _ _ (T2.setTop (mkF m 13 #[.val (.int x1)] []))
  obtain ⟨T3, h3, X3, e3, E3, A3, D3, -, st3⟩ := newO X2 hx hZ hown (hw _ (List.mem_of_getElem? (i := 9) rfl)) (hw _ (List.mem_of_getElem? (i := 10) rfl)) (hw _ (List.mem_of_getElem? (i := 2) rfl)) e2 (g := (mkF m 13 #[.val (.int x1)] [])) rfl (hb hby d1_13) (by decide) (by decide)
  obtain ⟨sa, g3⟩ : ∃ z, z = h0.size := ⟨_, rfl⟩
  rw [← g3] at A3 D3 st3
  refine Go.of st3 ?_
  have g_sa : n0 ≤ sa := Nat.le_trans Zs (Nat.le_of_eq g3.symm)
  have sz_sa : h0.size ≤ sa := Nat.le_trans Kp.1 (Nat.le_of_eq g3.symm)
  have Zs := Nat.le_trans Zs E3.1
  have Kp := Kp.ext E3
  have Od := Od.ext E3
  have E_sa := A3
  have F_sa_value : Fld Z h3 sa "java/lang/String" "value" "[B" .null := D3 (Or.inr (hw _ (List.mem_of_getElem? (i := 23) rfl))) (ty := (.array .byte)) (by decide)
  have F_sa_coder : Fld Z h3 sa "java/lang/String" "coder" "B" (.int (0 : Int32)) := D3 (Or.inr (hw _ (List.mem_of_getElem? (i := 25) rfl))) (ty := .byte) (by decide)
  show Go _ _ _ _ _ _ _ (T3.setTop (mkF m 16 #[.val (.int x1)] [(.ref sa)]))
  refine Go.of (fun _ q => XS.dup X3.here hx rfl (hb hby d1_16) rfl rfl q) ?_
  show Go _ _ _ _ _ _ _ (T3.setTop (mkF m 17 #[.val (.int x1)] [(.ref sa), (.ref sa)]))
  refine Go.of (fun _ q => XS.iloadN X3.here hx rfl (hb hby d1_17) rfl q) ?_
  show Go _ _ _ _ _ _ _ (T3.setTop (mkF m 18 #[.val (.int x1)] [(.int x1), (.ref sa), (.ref sa)]))
  refine Go.static X3 hx hZ (y := (⟨"java/lang/StringLatin1", "toBytes", "(C)[B"⟩ : MethodName)) (argsL := [(.int x1)]) hown (hw _ (List.mem_of_getElem? (i := 11) rfl)) (hw _ (List.mem_of_getElem? (i := 12) rfl)) (hw _ (List.mem_of_getElem? (i := 7) rfl)) (hw _ (List.mem_of_getElem? (i := 13) rfl)) (by decide) 2 e3 (rm3 l Z a0 hw x1 h3 n0 Zs ) (by decide) (by decide) (by decide) (by decide) (g := (mkF m 18 #[.val (.int x1)] [(.int x1), (.ref sa), (.ref sa)])) rfl (by rw [hml]; rfl) (rest := [(.ref sa), (.ref sa)]) (lenOf pd1 rfl) rfl (by show 2 * 0 + _ ≤ _; exact Nat.le_of_eq rfl) (hb hby d1_18) ?_
  intro T4 v4 L4 X4 q4
  obtain ⟨b, kb_4, gb_4, rfl, Nq4, K4, f4_0, f4_1⟩ := q4
  have N4 := Fr.app N2 Nq4
  have g_b : n0 ≤ b := Nat.le_trans Zs f4_0
  have sz_b : h0.size ≤ b := Nat.le_trans Kp.1 f4_0
  have ne_sa_b : sa ≠ b := Nat.ne_of_lt (Nat.lt_of_lt_of_le E_sa.lt f4_0)
  have Zs := Nat.le_trans Zs K4.1
  have Kp := Kp.trans K4 all0
  have Od := Od.keep K4 all0
  have E_sa := E_sa.keep K4
  have F_sa_value := F_sa_value.keep K4 nin0
  have F_sa_coder := F_sa_coder.keep K4 nin0
  have A_b := f4_1
  show Go _ _ _ _ _ _ _ (T4.setTop (mkF m 21 #[.val (.int x1)] [(.ref b), (.ref sa), (.ref sa)]))
  refine Go.of (fun _ q => XS.iconst X4.here hx rfl (hb hby d1_21) q) ?_
  show Go _ _ _ _ _ _ _ (T4.setTop (mkF m 22 #[.val (.int x1)] [(.int (0 : Int32)), (.ref b), (.ref sa), (.ref sa)]))
  refine Go.special X4 hx hZ (y := (⟨"java/lang/String", "<init>", "([BB)V"⟩ : MethodName)) (a := sa) (argsL := [(.ref b), (.int (0 : Int32))]) rfl hown (hw _ (List.mem_of_getElem? (i := 15) rfl)) (hw _ (List.mem_of_getElem? (i := 16) rfl)) (hw _ (List.mem_of_getElem? (i := 2) rfl)) (hw _ (List.mem_of_getElem? (i := 18) rfl)) (by decide) 1 rfl (rm4 l Z a0 hw sa b .null (0 : Int32) T4.heap n0 Zs E_sa F_sa_value F_sa_coder g_sa) (by decide) (by decide) (by decide) (by decide) (g := (mkF m 22 #[.val (.int x1)] [(.int (0 : Int32)), (.ref b), (.ref sa), (.ref sa)])) rfl (by rw [hml]; rfl) (rest := [(.ref sa)]) (lenOf pd2 rfl) rfl (by show 2 * 0 + _ ≤ _; exact Nat.le_of_eq rfl) (hb hby d1_22) ?_
  intro T5 v5 L5 X5 q5
  obtain ⟨rfl, Nq5, K5, f5_0⟩ := q5
  have N5 := Fr.app N4 Nq5
  have Zs := Nat.le_trans Zs K5.1
  have Kp := Kp.trans K5 (allS (P := fun x => x ∈ [] ∨ h0.size ≤ x) (Or.inr sz_sa) all0)
  have Od := Od.keep K5 (allS (P := fun x => n0 ≤ x) g_sa all0)
  have E_sa := E_sa.keep K5
  have A_b := A_b.keep K5 (ninS (Ne.symm ne_sa_b) nin0)
  show Go _ _ _ _ _ _ _ (T5.setTop (mkF m 25 #[.val (.int x1)] [(.ref sa)]))
  refine Go.retA X5 hx hlk hret rfl rfl (hb hby d1_25) (by decide) (by decide) ?_
  exact ⟨sa, rfl, N5, Kp, sz_sa, E_sa⟩
theorem d6_0 : decode prog_1_method_1_code 0 = .ok (.aload_n 0, 1) := by decide +kernel
theorem d6_1 : decode prog_1_method_1_code 1 = .ok (.invokespecial 1, 3) := by decide +kernel
theorem d6_4 : decode prog_1_method_1_code 4 = .ok (.aload_n 0, 1) := by decide +kernel
theorem d6_5 : decode prog_1_method_1_code 5 = .ok (.aload_n 1, 1) := by decide +kernel
theorem d6_6 : decode prog_1_method_1_code 6 = .ok (.putfield 7, 3) := by decide +kernel
theorem d6_9 : decode prog_1_method_1_code 9 = .ok (.aload_n 0, 1) := by decide +kernel
theorem d6_10 : decode prog_1_method_1_code 10 = .ok (.lload_n 2, 1) := by decide +kernel
theorem d6_11 : decode prog_1_method_1_code 11 = .ok (.putfield 13, 3) := by decide +kernel
theorem d6_14 : decode prog_1_method_1_code 14 = .ok (.return_, 1) := by decide +kernel
theorem pn2 : plainName "com/example/lane/lane/AccessRecord" = true := by first | (simp [plainName, overriddenIn]; done) | decide +kernel
theorem ef_6 (m : MethodId) (a : Addr) (b : Addr) (y1 : Int64) : entryFrame m #[(.ref a), (.ref b), (.long y1)] 4 = mkF m 0 #[.val (.ref a), .val (.ref b), .val (.long y1), .second] [] := by first | (simp [entryFrame, mkF, argsToLocals, Value.category]; done) | rfl
def Q6 (Z : State) (a : Addr) (b : Addr) (y1 : Int64) (u1 : Value) (u2 : Int64) (u3 : Int32) (u4 : Int32) (u5 : Int64) (h0 : Heap) (n0 : Nat) (v : Option Value) (h : Heap) (L : List Loc) : Prop := v = none ∧ Fr n0 L ∧ Keep h0 h [a] ∧ Exa Z h a "com/example/lane/lane/AccessRecord" ∧ Fld Z h a "com/example/lane/lane/AccessRecord" "start" "J" (.long y1) ∧ Fld Z h a "com/example/lane/lane/AccessRecord" "ended" "Z" (.int u3) ∧ Fld Z h a "com/example/lane/lane/AccessRecord" "cut" "Z" (.int u4) ∧ Fld Z h a "com/example/lane/lane/AccessRecord" "end" "J" (.long u5)
set_option maxRecDepth 65536 in
set_option maxHeartbeats 40000000 in
theorem rm6 (l : Launch) (Z : State) (a0 : Array Value) (hw : ∀ d ∈ tables_1, d.before a0 Z = true) (a : Addr) (b : Addr) (y1 : Int64) (u1 : Value) (u2 : Int64) (u3 : Int32) (u4 : Int32) (u5 : Int64) (h0 : Heap) (n0 : Nat) (Zs : n0 ≤ h0.size) (E_a : Exa Z h0 a "com/example/lane/lane/AccessRecord") (F_a_client : Fld Z h0 a "com/example/lane/lane/AccessRecord" "client" "Ljava/lang/String;" u1) (F_a_start : Fld Z h0 a "com/example/lane/lane/AccessRecord" "start" "J" (.long u2)) (F_a_ended : Fld Z h0 a "com/example/lane/lane/AccessRecord" "ended" "Z" (.int u3)) (F_a_cut : Fld Z h0 a "com/example/lane/lane/AccessRecord" "cut" "Z" (.int u4)) (F_a_end : Fld Z h0 a "com/example/lane/lane/AccessRecord" "end" "J" (.long u5)) (g_a : n0 ≤ a) :
    Con l Z (⟨"com/example/lane/lane/AccessRecord", "<init>", "(Ljava/lang/String;J)V"⟩ : MethodName) prog_1_method_1_code 4 none ({ frames := 1, cells := 0, slots := 0, locals := 12 } : Room) #[(.ref a), (.ref b), (.long y1)] h0 (Q6 Z a b y1 u1 u2 u3 u4 u5 h0 n0) := by
  refine Con.intro (plainFor_of_name pn2) (fun m => ef_6 m a b y1) ?_
  intro p e s m below meth c s₁ hx hby hml0 hZ hown hnm hret hlk X0 e0
  have hml : c.maxLocals = 4 := hml0
  have N0 := Fr.nil n0
  have Kp : Keep h0 h0 [a] := Keep.refl h0 _
  show Go _ _ _ _ _ _ _ (s₁.setTop (mkF m 0 #[.val (.ref a), .val (.ref b), .val (.long y1), .second] []))
  refine Go.of (fun _ q => XS.aloadN X0.here hx rfl (hb hby d6_0) rfl rfl q) ?_
  show Go _ _ _ _ _ _ _ (s₁.setTop (mkF m 1 #[.val (.ref a), .val (.ref b), .val (.long y1), .second] [(.ref a)]))
  obtain ⟨T1, X1, e1, st1⟩ := initO X0 hx hZ hown (hw _ (List.mem_of_getElem? (i := 32) rfl)) (hw _ (List.mem_of_getElem? (i := 20) rfl)) (hw _ (List.mem_of_getElem? (i := 21) rfl)) e0 (g := (mkF m 1 #[.val (.ref a), .val (.ref b), .val (.long y1), .second] [(.ref a)])) rfl (by rw [hml]; rfl) rfl (hb hby d6_1) (by decide) (W := 0) (by show 2 * 0 + _ ≤ _; exact Nat.le_of_eq rfl) (by decide)
  refine Go.of st1 ?_
  show Go _ _ _ _ _ _ _ (T1.setTop (mkF m 4 #[.val (.ref a), .val (.ref b), .val (.long y1), .second] []))
  refine Go.of (fun _ q => XS.aloadN X1.here hx rfl (hb hby d6_4) rfl rfl q) ?_
  show Go _ _ _ _ _ _ _ (T1.setTop (mkF m 5 #[.val (.ref a), .val (.ref b), .val (.long y1), .second] [(.ref a)]))
  refine Go.of (fun _ q => XS.aloadN X1.here hx rfl (hb hby d6_5) rfl rfl q) ?_
  show Go _ _ _ _ _ _ _ (T1.setTop (mkF m 6 #[.val (.ref a), .val (.ref b), .val (.long y1), .second] [(.ref b), (.ref a)]))
  obtain ⟨T2, h2, X2, e2, W2, st2⟩ := putF X1 hx hZ hown (host := "") (Or.inl (hw _ (List.mem_of_getElem? (i := 33) rfl))) Via.refl e1 F_a_client E_a (Or.inr ⟨(hw _ (List.mem_of_getElem? (i := 34) rfl)), rfl, hnm⟩) (hw _ (List.mem_of_getElem? (i := 27) rfl)) (ty := (.object "java/lang/String")) (by decide) rfl rfl (g := (mkF m 6 #[.val (.ref a), .val (.ref b), .val (.long y1), .second] [(.ref b), (.ref a)])) rfl rfl (hb hby d6_6)
  refine Go.of st2 ?_
  have Zs := Nat.le_trans Zs (Nat.le_of_eq W2.size.symm)
  have Kp := Kp.wr W2 (Or.inl (List.mem_of_getElem? (i := 0) rfl))
  have E_a := E_a.wr W2
  have F_a_client := F_a_client.same W2
  have F_a_start := F_a_start.other W2 (Or.inr (slot_ne (Or.inr (hw _ (List.mem_of_getElem? (i := 36) rfl))) (Or.inr (hw _ (List.mem_of_getElem? (i := 34) rfl))) (by decide) (t := .long) (t' := (.object "java/lang/String")) (by decide) (by decide)))
  have F_a_ended := F_a_ended.other W2 (Or.inr (slot_ne (Or.inl (hw _ (List.mem_of_getElem? (i := 57) rfl))) (Or.inr (hw _ (List.mem_of_getElem? (i := 34) rfl))) (by decide) (t := .boolean) (t' := (.object "java/lang/String")) (by decide) (by decide)))
  have F_a_cut := F_a_cut.other W2 (Or.inr (slot_ne (Or.inl (hw _ (List.mem_of_getElem? (i := 50) rfl))) (Or.inr (hw _ (List.mem_of_getElem? (i := 34) rfl))) (by decide) (t := .boolean) (t' := (.object "java/lang/String")) (by decide) (by decide)))
  have F_a_end := F_a_end.other W2 (Or.inr (slot_ne (Or.inl (hw _ (List.mem_of_getElem? (i := 43) rfl))) (Or.inr (hw _ (List.mem_of_getElem? (i := 34) rfl))) (by decide) (t := .long) (t' := (.object "java/lang/String")) (by decide) (by decide)))
  have N2 := Fr.snoc X2 N0 g_a
  show Go _ _ _ _ _ _ _ (T2.setTop (mkF m 9 #[.val (.ref a), .val (.ref b), .val (.long y1), .second] []))
  refine Go.of (fun _ q => XS.aloadN X2.here hx rfl (hb hby d6_9) rfl rfl q) ?_
  show Go _ _ _ _ _ _ _ (T2.setTop (mkF m 10 #[.val (.ref a), .val (.ref b), .val (.long y1), .second] [(.ref a)]))
  refine Go.of (fun _ q => XS.lloadN X2.here hx rfl (hb hby d6_10) rfl q) ?_
  show Go _ _ _ _ _ _ _ (T2.setTop (mkF m 11 #[.val (.ref a), .val (.ref b), .val (.long y1), .second] [(.long y1), (.ref a)]))
  obtain ⟨T3, h3, X3, e3, W3, st3⟩ := putF X2 hx hZ hown (host := "") (Or.inl (hw _ (List.mem_of_getElem? (i := 35) rfl))) Via.refl e2 F_a_start E_a (Or.inr ⟨(hw _ (List.mem_of_getElem? (i := 36) rfl)), rfl, hnm⟩) (hw _ (List.mem_of_getElem? (i := 27) rfl)) (ty := .long) (by decide) rfl rfl (g := (mkF m 11 #[.val (.ref a), .val (.ref b), .val (.long y1), .second] [(.long y1), (.ref a)])) rfl rfl (hb hby d6_11)
  refine Go.of st3 ?_
  have Zs := Nat.le_trans Zs (Nat.le_of_eq W3.size.symm)
  have Kp := Kp.wr W3 (Or.inl (List.mem_of_getElem? (i := 0) rfl))
  have E_a := E_a.wr W3
  have F_a_client := F_a_client.other W3 (Or.inr (slot_ne (Or.inr (hw _ (List.mem_of_getElem? (i := 34) rfl))) (Or.inr (hw _ (List.mem_of_getElem? (i := 36) rfl))) (by decide) (t := (.object "java/lang/String")) (t' := .long) (by decide) (by decide)))
  have F_a_start := F_a_start.same W3
  have F_a_ended := F_a_ended.other W3 (Or.inr (slot_ne (Or.inl (hw _ (List.mem_of_getElem? (i := 57) rfl))) (Or.inr (hw _ (List.mem_of_getElem? (i := 36) rfl))) (by decide) (t := .boolean) (t' := .long) (by decide) (by decide)))
  have F_a_cut := F_a_cut.other W3 (Or.inr (slot_ne (Or.inl (hw _ (List.mem_of_getElem? (i := 50) rfl))) (Or.inr (hw _ (List.mem_of_getElem? (i := 36) rfl))) (by decide) (t := .boolean) (t' := .long) (by decide) (by decide)))
  have F_a_end := F_a_end.other W3 (Or.inr (slot_ne (Or.inl (hw _ (List.mem_of_getElem? (i := 43) rfl))) (Or.inr (hw _ (List.mem_of_getElem? (i := 36) rfl))) (by decide) (t := .long) (t' := .long) (by decide) (by decide)))
  have N3 := Fr.snoc X3 N2 g_a
  show Go _ _ _ _ _ _ _ (T3.setTop (mkF m 14 #[.val (.ref a), .val (.ref b), .val (.long y1), .second] []))
  refine Go.retV X3 hx hlk hret (hb hby d6_14) (by decide) (by decide) ?_
  rw [e3]
  exact ⟨rfl, N3, Kp, E_a, F_a_start, F_a_ended, F_a_cut, F_a_end⟩
theorem d7_0 : decode prog_1_method_11_code 0 = .ok (.aload_n 0, 1) := by decide +kernel
theorem d7_1 : decode prog_1_method_11_code 1 = .ok (.getfield 65, 3) := by decide +kernel
theorem d7_4 : decode prog_1_method_11_code 4 = .ok (.aload_n 0, 1) := by decide +kernel
theorem d7_5 : decode prog_1_method_11_code 5 = .ok (.getfield 13, 3) := by decide +kernel
theorem d7_8 : decode prog_1_method_11_code 8 = .ok (.lsub, 1) := by decide +kernel
theorem d7_9 : decode prog_1_method_11_code 9 = .ok (.lreturn, 1) := by decide +kernel
theorem ef_7 (m : MethodId) (a : Addr) : entryFrame m #[(.ref a)] 1 = mkF m 0 #[.val (.ref a)] [] := by first | (simp [entryFrame, mkF, argsToLocals, Value.category]; done) | rfl
def Q7 (Z : State) (a : Addr) (u2 : Int64) (u5 : Int64) (h0 : Heap) (n0 : Nat) (v : Option Value) (h : Heap) (L : List Loc) : Prop := v = some (.long (u5 - u2)) ∧ Fr n0 L ∧ h = h0
set_option maxRecDepth 65536 in
set_option maxHeartbeats 40000000 in
theorem rm7 (l : Launch) (Z : State) (a0 : Array Value) (hw : ∀ d ∈ tables_1, d.before a0 Z = true) (a : Addr) (u2 : Int64) (u5 : Int64) (h0 : Heap) (n0 : Nat) (Zs : n0 ≤ h0.size) (F_a_start : Fld Z h0 a "com/example/lane/lane/AccessRecord" "start" "J" (.long u2)) (F_a_end : Fld Z h0 a "com/example/lane/lane/AccessRecord" "end" "J" (.long u5)) :
    Con l Z (⟨"com/example/lane/lane/AccessRecord", "duration", "()J"⟩ : MethodName) prog_1_method_11_code 1 (some .long) ({ frames := 0, cells := 0, slots := 0, locals := 0 } : Room) #[(.ref a)] h0 (Q7 Z a u2 u5 h0 n0) := by
  refine Con.intro (plainFor_of_name pn2) (fun m => ef_7 m a) ?_
  intro p e s m below meth c s₁ hx hby hml0 hZ hown hnm hret hlk X0 e0
  have hml : c.maxLocals = 1 := hml0
  have N0 := Fr.nil n0
  have Kp : Keep h0 h0 [] := Keep.refl h0 _
  show Go _ _ _ _ _ _ _ (s₁.setTop (mkF m 0 #[.val (.ref a)] []))
  refine Go.of (fun _ q => XS.aloadN X0.here hx rfl (hb hby d7_0) rfl rfl q) ?_
  show Go _ _ _ _ _ _ _ (s₁.setTop (mkF m 1 #[.val (.ref a)] [(.ref a)]))
  obtain ⟨T1, X1, e1, st1⟩ := getF X0 hx hZ hown (host := "") (Or.inl (hw _ (List.mem_of_getElem? (i := 42) rfl))) Via.refl e0 F_a_end (g := (mkF m 1 #[.val (.ref a)] [(.ref a)])) rfl rfl (hb hby d7_1)
  refine Go.of st1 ?_
  show Go _ _ _ _ _ _ _ (T1.setTop (mkF m 4 #[.val (.ref a)] [(.long u5)]))
  refine Go.of (fun _ q => XS.aloadN X1.here hx rfl (hb hby d7_4) rfl rfl q) ?_
  show Go _ _ _ _ _ _ _ (T1.setTop (mkF m 5 #[.val (.ref a)] [(.ref a), (.long u5)]))
  obtain ⟨T2, X2, e2, st2⟩ := getF X1 hx hZ hown (host := "") (Or.inl (hw _ (List.mem_of_getElem? (i := 35) rfl))) Via.refl e1 F_a_start (g := (mkF m 5 #[.val (.ref a)] [(.ref a), (.long u5)])) rfl rfl (hb hby d7_5)
  refine Go.of st2 ?_
  show Go _ _ _ _ _ _ _ (T2.setTop (mkF m 8 #[.val (.ref a)] [(.long u2), (.long u5)]))
  refine Go.of (fun _ q => XS.lsub X2.here hx rfl (hb hby d7_8) rfl q) ?_
  show Go _ _ _ _ _ _ _ (T2.setTop (mkF m 9 #[.val (.ref a)] [(.long (u5 - u2))]))
  refine Go.retJ X2 hx hlk hret (hb hby d7_9) (by decide) (by decide) ?_
  rw [e2]
  exact ⟨rfl, N0, rfl⟩
theorem d8_0 : decode prog_1_method_25_code 0 = .ok (.aload_n 0, 1) := by decide +kernel
theorem d8_1 : decode prog_1_method_25_code 1 = .ok (.getfield 62, 3) := by decide +kernel
theorem d8_4 : decode prog_1_method_25_code 4 = .ok (.ireturn, 1) := by decide +kernel
theorem ef_8 (m : MethodId) (a : Addr) : entryFrame m #[(.ref a)] 1 = mkF m 0 #[.val (.ref a)] [] := by first | (simp [entryFrame, mkF, argsToLocals, Value.category]; done) | rfl
def Q8 (Z : State) (a : Addr) (u4 : Int32) (h0 : Heap) (n0 : Nat) (v : Option Value) (h : Heap) (L : List Loc) : Prop := v = some (.int u4) ∧ Fr n0 L ∧ h = h0
set_option maxRecDepth 65536 in
set_option maxHeartbeats 40000000 in
theorem rm8 (l : Launch) (Z : State) (a0 : Array Value) (hw : ∀ d ∈ tables_1, d.before a0 Z = true) (a : Addr) (u4 : Int32) (h0 : Heap) (n0 : Nat) (Zs : n0 ≤ h0.size) (F_a_cut : Fld Z h0 a "com/example/lane/lane/AccessRecord" "cut" "Z" (.int u4)) (hu : u4 = 0 ∨ u4 = 1) :
    Con l Z (⟨"com/example/lane/lane/AccessRecord", "cut", "()Z"⟩ : MethodName) prog_1_method_25_code 1 (some .boolean) ({ frames := 0, cells := 0, slots := 0, locals := 0 } : Room) #[(.ref a)] h0 (Q8 Z a u4 h0 n0) := by
  refine Con.intro (plainFor_of_name pn2) (fun m => ef_8 m a) ?_
  intro p e s m below meth c s₁ hx hby hml0 hZ hown hnm hret hlk X0 e0
  have hml : c.maxLocals = 1 := hml0
  have N0 := Fr.nil n0
  have Kp : Keep h0 h0 [] := Keep.refl h0 _
  show Go _ _ _ _ _ _ _ (s₁.setTop (mkF m 0 #[.val (.ref a)] []))
  refine Go.of (fun _ q => XS.aloadN X0.here hx rfl (hb hby d8_0) rfl rfl q) ?_
  show Go _ _ _ _ _ _ _ (s₁.setTop (mkF m 1 #[.val (.ref a)] [(.ref a)]))
  obtain ⟨T1, X1, e1, st1⟩ := getF X0 hx hZ hown (host := "") (Or.inl (hw _ (List.mem_of_getElem? (i := 49) rfl))) Via.refl e0 F_a_cut (g := (mkF m 1 #[.val (.ref a)] [(.ref a)])) rfl rfl (hb hby d8_1)
  refine Go.of st1 ?_
  show Go _ _ _ _ _ _ _ (T1.setTop (mkF m 4 #[.val (.ref a)] [(.int u4)]))
  refine Go.retN X1 hx hlk (t := .boolean) hret (by simp) (hb hby d8_4) (own_nz hu) (by decide) (by decide) ?_
  rw [e1]
  exact ⟨rfl, N0, rfl⟩
theorem d9_0 : decode prog_1_method_9_code 0 = .ok (.aload_n 0, 1) := by decide +kernel
theorem d9_1 : decode prog_1_method_9_code 1 = .ok (.getfield 58, 3) := by decide +kernel
theorem d9_4 : decode prog_1_method_9_code 4 = .ok (.ifCond .eq 5, 3) := by decide +kernel
theorem d9_9 : decode prog_1_method_9_code 9 = .ok (.aload_n 0, 1) := by decide +kernel
theorem d9_10 : decode prog_1_method_9_code 10 = .ok (.iconst 1, 1) := by decide +kernel
theorem d9_11 : decode prog_1_method_9_code 11 = .ok (.putfield 58, 3) := by decide +kernel
theorem d9_14 : decode prog_1_method_9_code 14 = .ok (.aload_n 0, 1) := by decide +kernel
theorem d9_15 : decode prog_1_method_9_code 15 = .ok (.iload_n 1, 1) := by decide +kernel
theorem d9_16 : decode prog_1_method_9_code 16 = .ok (.putfield 62, 3) := by decide +kernel
theorem d9_19 : decode prog_1_method_9_code 19 = .ok (.aload_n 0, 1) := by decide +kernel
theorem d9_20 : decode prog_1_method_9_code 20 = .ok (.lload_n 2, 1) := by decide +kernel
theorem d9_21 : decode prog_1_method_9_code 21 = .ok (.putfield 65, 3) := by decide +kernel
theorem d9_24 : decode prog_1_method_9_code 24 = .ok (.iconst 1, 1) := by decide +kernel
theorem d9_25 : decode prog_1_method_9_code 25 = .ok (.ireturn, 1) := by decide +kernel
theorem ef_9_0 (m : MethodId) (a : Addr) (x1 : Int32) (y1 : Int64) : entryFrame m #[(.ref a), (.int x1), (.long y1)] 4 = mkF m 0 #[.val (.ref a), .val (.int x1), .val (.long y1), .second] [] := by first | (simp [entryFrame, mkF, argsToLocals, Value.category]; done) | rfl
def Q9_0 (Z : State) (a : Addr) (x1 : Int32) (y1 : Int64) (u2 : Int64) (u4 : Int32) (u5 : Int64) (h0 : Heap) (n0 : Nat) (v : Option Value) (h : Heap) (L : List Loc) : Prop := v = some (.int (1 : Int32)) ∧ Fr n0 L ∧ Keep h0 h [a] ∧ Exa Z h a "com/example/lane/lane/AccessRecord" ∧ Fld Z h a "com/example/lane/lane/AccessRecord" "start" "J" (.long u2) ∧ Fld Z h a "com/example/lane/lane/AccessRecord" "ended" "Z" (.int (1 : Int32)) ∧ Fld Z h a "com/example/lane/lane/AccessRecord" "cut" "Z" (.int x1) ∧ Fld Z h a "com/example/lane/lane/AccessRecord" "end" "J" (.long y1)
set_option maxRecDepth 65536 in
set_option maxHeartbeats 40000000 in
theorem rm9_0 (l : Launch) (Z : State) (a0 : Array Value) (hw : ∀ d ∈ tables_1, d.before a0 Z = true) (a : Addr) (x1 : Int32) (y1 : Int64) (u2 : Int64) (u4 : Int32) (u5 : Int64) (h0 : Heap) (n0 : Nat) (Zs : n0 ≤ h0.size) (E_a : Exa Z h0 a "com/example/lane/lane/AccessRecord") (F_a_start : Fld Z h0 a "com/example/lane/lane/AccessRecord" "start" "J" (.long u2)) (F_a_ended : Fld Z h0 a "com/example/lane/lane/AccessRecord" "ended" "Z" (.int (0 : Int32))) (F_a_cut : Fld Z h0 a "com/example/lane/lane/AccessRecord" "cut" "Z" (.int u4)) (F_a_end : Fld Z h0 a "com/example/lane/lane/AccessRecord" "end" "J" (.long u5)) (g_a : n0 ≤ a) (hu : x1 = 0 ∨ x1 = 1) :
    Con l Z (⟨"com/example/lane/lane/AccessRecord", "end", "(ZJ)Z"⟩ : MethodName) prog_1_method_9_code 4 (some .boolean) ({ frames := 0, cells := 0, slots := 0, locals := 0 } : Room) #[(.ref a), (.int x1), (.long y1)] h0 (Q9_0 Z a x1 y1 u2 u4 u5 h0 n0) := by
  refine Con.intro (plainFor_of_name pn2) (fun m => ef_9_0 m a x1 y1) ?_
  intro p e s m below meth c s₁ hx hby hml0 hZ hown hnm hret hlk X0 e0
  have hml : c.maxLocals = 4 := hml0
  have N0 := Fr.nil n0
  have Kp : Keep h0 h0 [a] := Keep.refl h0 _
  show Go _ _ _ _ _ _ _ (s₁.setTop (mkF m 0 #[.val (.ref a), .val (.int x1), .val (.long y1), .second] []))
  refine Go.of (fun _ q => XS.aloadN X0.here hx rfl (hb hby d9_0) rfl rfl q) ?_
  show Go _ _ _ _ _ _ _ (s₁.setTop (mkF m 1 #[.val (.ref a), .val (.int x1), .val (.long y1), .second] [(.ref a)]))
  obtain ⟨T1, X1, e1, st1⟩ := getF X0 hx hZ hown (host := "") (Or.inl (hw _ (List.mem_of_getElem? (i := 56) rfl))) Via.refl e0 F_a_ended (g := (mkF m 1 #[.val (.ref a), .val (.int x1), .val (.long y1), .second] [(.ref a)])) rfl rfl (hb hby d9_1)
  refine Go.of st1 ?_
  show Go _ _ _ _ _ _ _ (T1.setTop (mkF m 4 #[.val (.ref a), .val (.int x1), .val (.long y1), .second] [(.int (0 : Int32))]))
  refine Go.of (fun _ q => XS.ifYes X1.here hx rfl (pc0 := 4) (pc' := 9) rfl (hb hby d9_4) rfl ((if0 _ _).trans (teq rfl).1) (by decide) (by decide) q) ?_
  show Go _ _ _ _ _ _ _ (T1.setTop (mkF m 9 #[.val (.ref a), .val (.int x1), .val (.long y1), .second] []))
  refine Go.of (fun _ q => XS.aloadN X1.here hx rfl (hb hby d9_9) rfl rfl q) ?_
  show Go _ _ _ _ _ _ _ (T1.setTop (mkF m 10 #[.val (.ref a), .val (.int x1), .val (.long y1), .second] [(.ref a)]))
  refine Go.of (fun _ q => XS.iconst X1.here hx rfl (hb hby d9_10) q) ?_
  show Go _ _ _ _ _ _ _ (T1.setTop (mkF m 11 #[.val (.ref a), .val (.int x1), .val (.long y1), .second] [(.int (1 : Int32)), (.ref a)]))
  obtain ⟨T2, h2, X2, e2, W2, st2⟩ := putFN X1 hx hZ hown (hw _ (List.mem_of_getElem? (i := 56) rfl)) Via.refl e1 F_a_ended E_a (Or.inl (hw _ (List.mem_of_getElem? (i := 57) rfl))) (hw _ (List.mem_of_getElem? (i := 27) rfl)) (ty := .boolean) (v' := .int (1 : Int32)) (by decide) rfl rfl (g := (mkF m 11 #[.val (.ref a), .val (.int x1), .val (.long y1), .second] [(.int (1 : Int32)), (.ref a)])) rfl rfl (hb hby d9_11)
  refine Go.of st2 ?_
  have Zs := Nat.le_trans Zs (Nat.le_of_eq W2.size.symm)
  have Kp := Kp.wr W2 (Or.inl (List.mem_of_getElem? (i := 0) rfl))
  have E_a := E_a.wr W2
  have F_a_start := F_a_start.other W2 (Or.inr (slot_ne (Or.inr (hw _ (List.mem_of_getElem? (i := 36) rfl))) (Or.inl (hw _ (List.mem_of_getElem? (i := 57) rfl))) (by decide) (t := .long) (t' := .boolean) (by decide) (by decide)))
  have F_a_ended := F_a_ended.same W2
  have F_a_cut := F_a_cut.other W2 (Or.inr (slot_ne (Or.inl (hw _ (List.mem_of_getElem? (i := 50) rfl))) (Or.inl (hw _ (List.mem_of_getElem? (i := 57) rfl))) (by decide) (t := .boolean) (t' := .boolean) (by decide) (by decide)))
  have F_a_end := F_a_end.other W2 (Or.inr (slot_ne (Or.inl (hw _ (List.mem_of_getElem? (i := 43) rfl))) (Or.inl (hw _ (List.mem_of_getElem? (i := 57) rfl))) (by decide) (t := .long) (t' := .boolean) (by decide) (by decide)))
  have N2 := Fr.snoc X2 N0 g_a
  show Go _ _ _ _ _ _ _ (T2.setTop (mkF m 14 #[.val (.ref a), .val (.int x1), .val (.long y1), .second] []))
  refine Go.of (fun _ q => XS.aloadN X2.here hx rfl (hb hby d9_14) rfl rfl q) ?_
  show Go _ _ _ _ _ _ _ (T2.setTop (mkF m 15 #[.val (.ref a), .val (.int x1), .val (.long y1), .second] [(.ref a)]))
  refine Go.of (fun _ q => XS.iloadN X2.here hx rfl (hb hby d9_15) rfl q) ?_
  show Go _ _ _ _ _ _ _ (T2.setTop (mkF m 16 #[.val (.ref a), .val (.int x1), .val (.long y1), .second] [(.int x1), (.ref a)]))
  obtain ⟨T3, h3, X3, e3, W3, st3⟩ := putFN X2 hx hZ hown (hw _ (List.mem_of_getElem? (i := 49) rfl)) Via.refl e2 F_a_cut E_a (Or.inl (hw _ (List.mem_of_getElem? (i := 50) rfl))) (hw _ (List.mem_of_getElem? (i := 27) rfl)) (ty := .boolean) (v' := .int x1) (by decide) (own_nar hu) (own_fit hu) (g := (mkF m 16 #[.val (.ref a), .val (.int x1), .val (.long y1), .second] [(.int x1), (.ref a)])) rfl rfl (hb hby d9_16)
  refine Go.of st3 ?_
  have Zs := Nat.le_trans Zs (Nat.le_of_eq W3.size.symm)
  have Kp := Kp.wr W3 (Or.inl (List.mem_of_getElem? (i := 0) rfl))
  have E_a := E_a.wr W3
  have F_a_start := F_a_start.other W3 (Or.inr (slot_ne (Or.inr (hw _ (List.mem_of_getElem? (i := 36) rfl))) (Or.inl (hw _ (List.mem_of_getElem? (i := 50) rfl))) (by decide) (t := .long) (t' := .boolean) (by decide) (by decide)))
  have F_a_ended := F_a_ended.other W3 (Or.inr (slot_ne (Or.inl (hw _ (List.mem_of_getElem? (i := 57) rfl))) (Or.inl (hw _ (List.mem_of_getElem? (i := 50) rfl))) (by decide) (t := .boolean) (t' := .boolean) (by decide) (by decide)))
  have F_a_cut := F_a_cut.same W3
  have F_a_end := F_a_end.other W3 (Or.inr (slot_ne (Or.inl (hw _ (List.mem_of_getElem? (i := 43) rfl))) (Or.inl (hw _ (List.mem_of_getElem? (i := 50) rfl))) (by decide) (t := .long) (t' := .boolean) (by decide) (by decide)))
  have N3 := Fr.snoc X3 N2 g_a
  show Go _ _ _ _ _ _ _ (T3.setTop (mkF m 19 #[.val (.ref a), .val (.int x1), .val (.long y1), .second] []))
  refine Go.of (fun _ q => XS.aloadN X3.here hx rfl (hb hby d9_19) rfl rfl q) ?_
  show Go _ _ _ _ _ _ _ (T3.setTop (mkF m 20 #[.val (.ref a), .val (.int x1), .val (.long y1), .second] [(.ref a)]))
  refine Go.of (fun _ q => XS.lloadN X3.here hx rfl (hb hby d9_20) rfl q) ?_
  show Go _ _ _ _ _ _ _ (T3.setTop (mkF m 21 #[.val (.ref a), .val (.int x1), .val (.long y1), .second] [(.long y1), (.ref a)]))
  obtain ⟨T4, h4, X4, e4, W4, st4⟩ := putF X3 hx hZ hown (host := "") (Or.inl (hw _ (List.mem_of_getElem? (i := 42) rfl))) Via.refl e3 F_a_end E_a (Or.inl (hw _ (List.mem_of_getElem? (i := 43) rfl))) (hw _ (List.mem_of_getElem? (i := 27) rfl)) (ty := .long) (by decide) rfl rfl (g := (mkF m 21 #[.val (.ref a), .val (.int x1), .val (.long y1), .second] [(.long y1), (.ref a)])) rfl rfl (hb hby d9_21)
  refine Go.of st4 ?_
  have Zs := Nat.le_trans Zs (Nat.le_of_eq W4.size.symm)
  have Kp := Kp.wr W4 (Or.inl (List.mem_of_getElem? (i := 0) rfl))
  have E_a := E_a.wr W4
  have F_a_start := F_a_start.other W4 (Or.inr (slot_ne (Or.inr (hw _ (List.mem_of_getElem? (i := 36) rfl))) (Or.inl (hw _ (List.mem_of_getElem? (i := 43) rfl))) (by decide) (t := .long) (t' := .long) (by decide) (by decide)))
  have F_a_ended := F_a_ended.other W4 (Or.inr (slot_ne (Or.inl (hw _ (List.mem_of_getElem? (i := 57) rfl))) (Or.inl (hw _ (List.mem_of_getElem? (i := 43) rfl))) (by decide) (t := .boolean) (t' := .long) (by decide) (by decide)))
  have F_a_cut := F_a_cut.other W4 (Or.inr (slot_ne (Or.inl (hw _ (List.mem_of_getElem? (i := 50) rfl))) (Or.inl (hw _ (List.mem_of_getElem? (i := 43) rfl))) (by decide) (t := .boolean) (t' := .long) (by decide) (by decide)))
  have F_a_end := F_a_end.same W4
  have N4 := Fr.snoc X4 N3 g_a
  show Go _ _ _ _ _ _ _ (T4.setTop (mkF m 24 #[.val (.ref a), .val (.int x1), .val (.long y1), .second] []))
  refine Go.of (fun _ q => XS.iconst X4.here hx rfl (hb hby d9_24) q) ?_
  show Go _ _ _ _ _ _ _ (T4.setTop (mkF m 25 #[.val (.ref a), .val (.int x1), .val (.long y1), .second] [(.int (1 : Int32))]))
  refine Go.retN X4 hx hlk (t := .boolean) hret (by simp) (hb hby d9_25) rfl (by decide) (by decide) ?_
  rw [e4]
  exact ⟨rfl, N4, Kp, E_a, F_a_start, F_a_ended, F_a_cut, F_a_end⟩
theorem d9_7 : decode prog_1_method_9_code 7 = .ok (.iconst 0, 1) := by decide +kernel
theorem d9_8 : decode prog_1_method_9_code 8 = .ok (.ireturn, 1) := by decide +kernel
theorem ef_9_1 (m : MethodId) (a : Addr) (x1 : Int32) (y1 : Int64) : entryFrame m #[(.ref a), (.int x1), (.long y1)] 4 = mkF m 0 #[.val (.ref a), .val (.int x1), .val (.long y1), .second] [] := by first | (simp [entryFrame, mkF, argsToLocals, Value.category]; done) | rfl
def Q9_1 (Z : State) (a : Addr) (x1 : Int32) (y1 : Int64) (h0 : Heap) (n0 : Nat) (v : Option Value) (h : Heap) (L : List Loc) : Prop := v = some (.int (0 : Int32)) ∧ Fr n0 L ∧ h = h0
set_option maxRecDepth 65536 in
set_option maxHeartbeats 40000000 in
theorem rm9_1 (l : Launch) (Z : State) (a0 : Array Value) (hw : ∀ d ∈ tables_1, d.before a0 Z = true) (a : Addr) (x1 : Int32) (y1 : Int64) (h0 : Heap) (n0 : Nat) (Zs : n0 ≤ h0.size) (F_a_ended : Fld Z h0 a "com/example/lane/lane/AccessRecord" "ended" "Z" (.int (1 : Int32))) :
    Con l Z (⟨"com/example/lane/lane/AccessRecord", "end", "(ZJ)Z"⟩ : MethodName) prog_1_method_9_code 4 (some .boolean) ({ frames := 0, cells := 0, slots := 0, locals := 0 } : Room) #[(.ref a), (.int x1), (.long y1)] h0 (Q9_1 Z a x1 y1 h0 n0) := by
  refine Con.intro (plainFor_of_name pn2) (fun m => ef_9_1 m a x1 y1) ?_
  intro p e s m below meth c s₁ hx hby hml0 hZ hown hnm hret hlk X0 e0
  have hml : c.maxLocals = 4 := hml0
  have N0 := Fr.nil n0
  have Kp : Keep h0 h0 [] := Keep.refl h0 _
  show Go _ _ _ _ _ _ _ (s₁.setTop (mkF m 0 #[.val (.ref a), .val (.int x1), .val (.long y1), .second] []))
  refine Go.of (fun _ q => XS.aloadN X0.here hx rfl (hb hby d9_0) rfl rfl q) ?_
  show Go _ _ _ _ _ _ _ (s₁.setTop (mkF m 1 #[.val (.ref a), .val (.int x1), .val (.long y1), .second] [(.ref a)]))
  obtain ⟨T1, X1, e1, st1⟩ := getF X0 hx hZ hown (host := "") (Or.inl (hw _ (List.mem_of_getElem? (i := 56) rfl))) Via.refl e0 F_a_ended (g := (mkF m 1 #[.val (.ref a), .val (.int x1), .val (.long y1), .second] [(.ref a)])) rfl rfl (hb hby d9_1)
  refine Go.of st1 ?_
  show Go _ _ _ _ _ _ _ (T1.setTop (mkF m 4 #[.val (.ref a), .val (.int x1), .val (.long y1), .second] [(.int (1 : Int32))]))
  refine Go.of (fun _ q => XS.ifNo X1.here hx rfl (hb hby d9_4) rfl ((if0 _ _).trans (feq (by decide)).1) q) ?_
  show Go _ _ _ _ _ _ _ (T1.setTop (mkF m 7 #[.val (.ref a), .val (.int x1), .val (.long y1), .second] []))
  refine Go.of (fun _ q => XS.iconst X1.here hx rfl (hb hby d9_7) q) ?_
  show Go _ _ _ _ _ _ _ (T1.setTop (mkF m 8 #[.val (.ref a), .val (.int x1), .val (.long y1), .second] [(.int (0 : Int32))]))
  refine Go.retN X1 hx hlk (t := .boolean) hret (by simp) (hb hby d9_8) rfl (by decide) (by decide) ?_
  rw [e1]
  exact ⟨rfl, N0, rfl⟩
theorem pd3 : parseMethodDescriptor "(C)Ljava/lang/String;" = some ⟨[.char], some (.object "java/lang/String")⟩ := by decide +kernel
theorem pd4 : parseMethodDescriptor "(Ljava/lang/String;J)V" = some ⟨[(.object "java/lang/String"), .long], none⟩ := by decide +kernel
theorem pd5 : parseMethodDescriptor "()J" = some ⟨[], some .long⟩ := by decide +kernel
theorem pd6 : parseMethodDescriptor "()Z" = some ⟨[], some .boolean⟩ := by decide +kernel
theorem pd7 : parseMethodDescriptor "(ZJ)Z" = some ⟨[.boolean, .long], some .boolean⟩ := by decide +kernel
theorem pn3 : plainName "com/example/lane/lane/AccessRecordEndPinLaw" = true := by first | (simp [plainName, overriddenIn]; done) | decide +kernel
theorem ef_0 (m : MethodId) (x1 : Int64) (x2 : Int64) (x3 : Int64) (x4 : Int32) : entryFrame m #[(.long x1), (.long x2), (.long x3), (.int x4)] maxLocals = mkF m 0 #[.val (.long x1), .second, .val (.long x2), .second, .val (.long x3), .second, .val (.int x4), .unset, .unset, .unset, .unset, .unset, .unset, .unset] [] := by first | (simp [entryFrame, mkF, argsToLocals, Value.category, maxLocals]; done) | rfl
def Q0 (Z : State) (x1 : Int64) (x2 : Int64) (x3 : Int64) (x4 : Int32) (cs : Int32) (h0 : Heap) (n0 : Nat) (v : Option Value) (h : Heap) (L : List Loc) : Prop := v = some (.int (1 : Int32)) ∧ Fr n0 L
set_option maxRecDepth 65536 in
set_option maxHeartbeats 40000000 in
theorem rm0 (l : Launch) (Z : State) (a0 : Array Value) (hw : ∀ d ∈ tables_1, d.before a0 Z = true) (x1 : Int64) (x2 : Int64) (x3 : Int64) (x4 : Int32) (cs : Int32) (h0 : Heap) (n0 : Nat) (Zs : n0 ≤ h0.size) (Od : Old Z n0 h0) (Scs : Sta Z Z.heap "java/lang/String" "COMPACT_STRINGS" "Z" (.int cs)) (hcs : ¬ cs = (0 : Int32)) :
    Con l Z x code maxLocals ret room_1 #[(.long x1), (.long x2), (.long x3), (.int x4)] h0 (Q0 Z x1 x2 x3 x4 cs h0 n0) := by
  refine Con.intro (plainFor_of_name pn3) (fun m => ef_0 m x1 x2 x3 x4) ?_
  intro p e s m below meth c s₁ hx hby hml0 hZ hown hnm hret hlk X0 e0
  have hml : c.maxLocals = 14 := hml0
  have N0 := Fr.nil n0
  have Kp : Keep h0 h0 [] := Keep.refl h0 _
  show Go _ _ _ _ _ _ _ (s₁.setTop (mkF m 0 #[.val (.long x1), .second, .val (.long x2), .second, .val (.long x3), .second, .val (.int x4), .unset, .unset, .unset, .unset, .unset, .unset, .unset] []))
  refine Go.of (fun _ q => XS.iload X0.here hx rfl (hb hby at_0) rfl q) ?_
  show Go _ _ _ _ _ _ _ (s₁.setTop (mkF m 2 #[.val (.long x1), .second, .val (.long x2), .second, .val (.long x3), .second, .val (.int x4), .unset, .unset, .unset, .unset, .unset, .unset, .unset] [(.int x4)]))
  refine Go.of (fun _ q => XS.iconst X0.here hx rfl (hb hby at_2) q) ?_
  show Go _ _ _ _ _ _ _ (s₁.setTop (mkF m 3 #[.val (.long x1), .second, .val (.long x2), .second, .val (.long x3), .second, .val (.int x4), .unset, .unset, .unset, .unset, .unset, .unset, .unset] [(.int (1 : Int32)), (.int x4)]))
  refine Go.of (fun _ q => XS.iand X0.here hx rfl (hb hby at_3) rfl q) ?_
  show Go _ _ _ _ _ _ _ (s₁.setTop (mkF m 4 #[.val (.long x1), .second, .val (.long x2), .second, .val (.long x3), .second, .val (.int x4), .unset, .unset, .unset, .unset, .unset, .unset, .unset] [(.int (x4 &&& (1 : Int32)))]))
  have J1 : ∀ (zJ1_0 : Int32), zJ1_0 = (if (x4 &&& (1 : Int32)) = (0 : Int32) then (0 : Int32) else (1 : Int32)) → Go p e below s room_1.cells room_1.slots (Q0 Z x1 x2 x3 x4 cs h0 n0) (s₁.setTop (mkF m 12 #[.val (.long x1), .second, .val (.long x2), .second, .val (.long x3), .second, .val (.int x4), .unset, .unset, .unset, .unset, .unset, .unset, .unset] [(.int zJ1_0)])) := by
    intro zJ1_0 hzJ1_0
    show Go _ _ _ _ _ _ _ (s₁.setTop (mkF m 12 #[.val (.long x1), .second, .val (.long x2), .second, .val (.long x3), .second, .val (.int x4), .unset, .unset, .unset, .unset, .unset, .unset, .unset] [(.int zJ1_0)]))
    refine Go.of (fun _ q => XS.istore X0.here hx rfl (hb hby at_12) rfl (l' := #[.val (.long x1), .second, .val (.long x2), .second, .val (.long x3), .second, .val (.int x4), .val (.int zJ1_0), .unset, .unset, .unset, .unset, .unset, .unset]) rfl q) ?_
    show Go _ _ _ _ _ _ _ (s₁.setTop (mkF m 14 #[.val (.long x1), .second, .val (.long x2), .second, .val (.long x3), .second, .val (.int x4), .val (.int zJ1_0), .unset, .unset, .unset, .unset, .unset, .unset] []))
    refine Go.of (fun _ q => XS.iload X0.here hx rfl (hb hby at_14) rfl q) ?_
    show Go _ _ _ _ _ _ _ (s₁.setTop (mkF m 16 #[.val (.long x1), .second, .val (.long x2), .second, .val (.long x3), .second, .val (.int x4), .val (.int zJ1_0), .unset, .unset, .unset, .unset, .unset, .unset] [(.int x4)]))
    refine Go.of (fun _ q => XS.iconst X0.here hx rfl (hb hby at_16) q) ?_
    show Go _ _ _ _ _ _ _ (s₁.setTop (mkF m 17 #[.val (.long x1), .second, .val (.long x2), .second, .val (.long x3), .second, .val (.int x4), .val (.int zJ1_0), .unset, .unset, .unset, .unset, .unset, .unset] [(.int (2 : Int32)), (.int x4)]))
    refine Go.of (fun _ q => XS.iand X0.here hx rfl (hb hby at_17) rfl q) ?_
    show Go _ _ _ _ _ _ _ (s₁.setTop (mkF m 18 #[.val (.long x1), .second, .val (.long x2), .second, .val (.long x3), .second, .val (.int x4), .val (.int zJ1_0), .unset, .unset, .unset, .unset, .unset, .unset] [(.int (x4 &&& (2 : Int32)))]))
    have J2 : ∀ (zJ2_0 : Int32), zJ2_0 = (if (x4 &&& (2 : Int32)) = (0 : Int32) then (0 : Int32) else (1 : Int32)) → Go p e below s room_1.cells room_1.slots (Q0 Z x1 x2 x3 x4 cs h0 n0) (s₁.setTop (mkF m 26 #[.val (.long x1), .second, .val (.long x2), .second, .val (.long x3), .second, .val (.int x4), .val (.int zJ1_0), .unset, .unset, .unset, .unset, .unset, .unset] [(.int zJ2_0)])) := by
      intro zJ2_0 hzJ2_0
      show Go _ _ _ _ _ _ _ (s₁.setTop (mkF m 26 #[.val (.long x1), .second, .val (.long x2), .second, .val (.long x3), .second, .val (.int x4), .val (.int zJ1_0), .unset, .unset, .unset, .unset, .unset, .unset] [(.int zJ2_0)]))
      refine Go.of (fun _ q => XS.istore X0.here hx rfl (hb hby at_26) rfl (l' := #[.val (.long x1), .second, .val (.long x2), .second, .val (.long x3), .second, .val (.int x4), .val (.int zJ1_0), .val (.int zJ2_0), .unset, .unset, .unset, .unset, .unset]) rfl q) ?_
      show Go _ _ _ _ _ _ _ (s₁.setTop (mkF m 28 #[.val (.long x1), .second, .val (.long x2), .second, .val (.long x3), .second, .val (.int x4), .val (.int zJ1_0), .val (.int zJ2_0), .unset, .unset, .unset, .unset, .unset] []))
      refine Go.of (fun _ q => XS.iload X0.here hx rfl (hb hby at_28) rfl q) ?_
      show Go _ _ _ _ _ _ _ (s₁.setTop (mkF m 30 #[.val (.long x1), .second, .val (.long x2), .second, .val (.long x3), .second, .val (.int x4), .val (.int zJ1_0), .val (.int zJ2_0), .unset, .unset, .unset, .unset, .unset] [(.int x4)]))
      refine Go.of (fun _ q => XS.bipush X0.here hx rfl (hb hby at_30) q) ?_
      show Go _ _ _ _ _ _ _ (s₁.setTop (mkF m 32 #[.val (.long x1), .second, .val (.long x2), .second, .val (.long x3), .second, .val (.int x4), .val (.int zJ1_0), .val (.int zJ2_0), .unset, .unset, .unset, .unset, .unset] [(.int (8 : Int32)), (.int x4)]))
      refine Go.of (fun _ q => XS.iushr X0.here hx rfl (hb hby at_32) rfl q) ?_
      show Go _ _ _ _ _ _ _ (s₁.setTop (mkF m 33 #[.val (.long x1), .second, .val (.long x2), .second, .val (.long x3), .second, .val (.int x4), .val (.int zJ1_0), .val (.int zJ2_0), .unset, .unset, .unset, .unset, .unset] [(.int ((x4.toUInt32 >>> ((8 : Int32) &&& 31).toUInt32).toInt32))]))
      refine Go.of (fun _ q => XS.sipush X0.here hx rfl (hb hby at_33) q) ?_
      show Go _ _ _ _ _ _ _ (s₁.setTop (mkF m 36 #[.val (.long x1), .second, .val (.long x2), .second, .val (.long x3), .second, .val (.int x4), .val (.int zJ1_0), .val (.int zJ2_0), .unset, .unset, .unset, .unset, .unset] [(.int (255 : Int32)), (.int ((x4.toUInt32 >>> ((8 : Int32) &&& 31).toUInt32).toInt32))]))
      refine Go.of (fun _ q => XS.iand X0.here hx rfl (hb hby at_36) rfl q) ?_
      show Go _ _ _ _ _ _ _ (s₁.setTop (mkF m 37 #[.val (.long x1), .second, .val (.long x2), .second, .val (.long x3), .second, .val (.int x4), .val (.int zJ1_0), .val (.int zJ2_0), .unset, .unset, .unset, .unset, .unset] [(.int (((x4.toUInt32 >>> ((8 : Int32) &&& 31).toUInt32).toInt32) &&& (255 : Int32)))]))
      refine Go.of (fun _ q => XS.i2c X0.here hx rfl (hb hby at_37) rfl q) ?_
      show Go _ _ _ _ _ _ _ (s₁.setTop (mkF m 38 #[.val (.long x1), .second, .val (.long x2), .second, .val (.long x3), .second, .val (.int x4), .val (.int zJ1_0), .val (.int zJ2_0), .unset, .unset, .unset, .unset, .unset] [(.int ((((x4.toUInt32 >>> ((8 : Int32) &&& 31).toUInt32).toInt32) &&& (255 : Int32)).toUInt32.toUInt16.toUInt32.toInt32))]))
      refine Go.static X0 hx hZ (y := (⟨"java/lang/String", "valueOf", "(C)Ljava/lang/String;"⟩ : MethodName)) (argsL := [(.int ((((x4.toUInt32 >>> ((8 : Int32) &&& 31).toUInt32).toInt32) &&& (255 : Int32)).toUInt32.toUInt16.toUInt32.toInt32))]) hown (hw _ (List.mem_of_getElem? (i := 0) rfl)) (hw _ (List.mem_of_getElem? (i := 1) rfl)) (hw _ (List.mem_of_getElem? (i := 2) rfl)) (hw _ (List.mem_of_getElem? (i := 3) rfl)) (by decide) 0 e0 (rm1 l Z a0 hw ((((x4.toUInt32 >>> ((8 : Int32) &&& 31).toUInt32).toInt32) &&& (255 : Int32)).toUInt32.toUInt16.toUInt32.toInt32) cs h0 n0 Zs Od (own_chr _) Scs hcs) (by decide) (by decide) (by decide) (by decide) (g := (mkF m 38 #[.val (.long x1), .second, .val (.long x2), .second, .val (.long x3), .second, .val (.int x4), .val (.int zJ1_0), .val (.int zJ2_0), .unset, .unset, .unset, .unset, .unset] [(.int ((((x4.toUInt32 >>> ((8 : Int32) &&& 31).toUInt32).toInt32) &&& (255 : Int32)).toUInt32.toUInt16.toUInt32.toInt32))])) rfl (by rw [hml]; rfl) (rest := []) (lenOf pd3 rfl) rfl (by show 2 * 0 + _ ≤ _; exact Nat.le_of_eq rfl) (hb hby at_38) ?_
      intro T3 v3 L3 X3 q3
      obtain ⟨sa, rfl, Nq3, K3, f3_0, f3_1⟩ := q3
      have N3 := Fr.app N0 Nq3
      have g_sa : n0 ≤ sa := Nat.le_trans Zs f3_0
      have sz_sa : h0.size ≤ sa := Nat.le_trans Kp.1 f3_0
      have Zs := Nat.le_trans Zs K3.1
      have Kp := Kp.trans K3 all0
      have Od := Od.keep K3 all0
      have E_sa := f3_1
      show Go _ _ _ _ _ _ _ (T3.setTop (mkF m 41 #[.val (.long x1), .second, .val (.long x2), .second, .val (.long x3), .second, .val (.int x4), .val (.int zJ1_0), .val (.int zJ2_0), .unset, .unset, .unset, .unset, .unset] [(.ref sa)]))
      refine Go.of (fun _ q => XS.astore X3.here hx rfl (hb hby at_41) rfl rfl (l' := #[.val (.long x1), .second, .val (.long x2), .second, .val (.long x3), .second, .val (.int x4), .val (.int zJ1_0), .val (.int zJ2_0), .val (.ref sa), .unset, .unset, .unset, .unset]) rfl q) ?_
      show Go _ _ _ _ _ _ _ (T3.setTop (mkF m 43 #[.val (.long x1), .second, .val (.long x2), .second, .val (.long x3), .second, .val (.int x4), .val (.int zJ1_0), .val (.int zJ2_0), .val (.ref sa), .unset, .unset, .unset, .unset] []))
      obtain ⟨T4, h4, X4, e4, E4, A4, D4, -, st4⟩ := newO X3 hx hZ hown (hw _ (List.mem_of_getElem? (i := 26) rfl)) (hw _ (List.mem_of_getElem? (i := 27) rfl)) (hw _ (List.mem_of_getElem? (i := 28) rfl)) rfl (g := (mkF m 43 #[.val (.long x1), .second, .val (.long x2), .second, .val (.long x3), .second, .val (.int x4), .val (.int zJ1_0), .val (.int zJ2_0), .val (.ref sa), .unset, .unset, .unset, .unset] [])) rfl (hb hby at_43) (by decide) (by decide)
      obtain ⟨a, g4⟩ : ∃ z, z = T3.heap.size := ⟨_, rfl⟩
      rw [← g4] at A4 D4 st4
      refine Go.of st4 ?_
      have g_a : n0 ≤ a := Nat.le_trans Zs (Nat.le_of_eq g4.symm)
      have sz_a : h0.size ≤ a := Nat.le_trans Kp.1 (Nat.le_of_eq g4.symm)
      have ne_sa_a : sa ≠ a := Nat.ne_of_lt (Nat.lt_of_lt_of_le E_sa.lt (Nat.le_of_eq g4.symm))
      have Zs := Nat.le_trans Zs E4.1
      have Kp := Kp.ext E4
      have Od := Od.ext E4
      have E_sa := E_sa.ext E4
      have E_a := A4
      have F_a_client : Fld Z h4 a "com/example/lane/lane/AccessRecord" "client" "Ljava/lang/String;" .null := D4 (Or.inr (hw _ (List.mem_of_getElem? (i := 34) rfl))) (ty := (.object "java/lang/String")) (by decide)
      have F_a_start : Fld Z h4 a "com/example/lane/lane/AccessRecord" "start" "J" (.long (0 : Int64)) := D4 (Or.inr (hw _ (List.mem_of_getElem? (i := 36) rfl))) (ty := .long) (by decide)
      have F_a_end : Fld Z h4 a "com/example/lane/lane/AccessRecord" "end" "J" (.long (0 : Int64)) := D4 (Or.inl (hw _ (List.mem_of_getElem? (i := 43) rfl))) (ty := .long) (by decide)
      have F_a_cut : Fld Z h4 a "com/example/lane/lane/AccessRecord" "cut" "Z" (.int (0 : Int32)) := D4 (Or.inl (hw _ (List.mem_of_getElem? (i := 50) rfl))) (ty := .boolean) (by decide)
      have F_a_ended : Fld Z h4 a "com/example/lane/lane/AccessRecord" "ended" "Z" (.int (0 : Int32)) := D4 (Or.inl (hw _ (List.mem_of_getElem? (i := 57) rfl))) (ty := .boolean) (by decide)
      show Go _ _ _ _ _ _ _ (T4.setTop (mkF m 46 #[.val (.long x1), .second, .val (.long x2), .second, .val (.long x3), .second, .val (.int x4), .val (.int zJ1_0), .val (.int zJ2_0), .val (.ref sa), .unset, .unset, .unset, .unset] [(.ref a)]))
      refine Go.of (fun _ q => XS.dup X4.here hx rfl (hb hby at_46) rfl rfl q) ?_
      show Go _ _ _ _ _ _ _ (T4.setTop (mkF m 47 #[.val (.long x1), .second, .val (.long x2), .second, .val (.long x3), .second, .val (.int x4), .val (.int zJ1_0), .val (.int zJ2_0), .val (.ref sa), .unset, .unset, .unset, .unset] [(.ref a), (.ref a)]))
      refine Go.of (fun _ q => XS.aload X4.here hx rfl (hb hby at_47) rfl rfl q) ?_
      show Go _ _ _ _ _ _ _ (T4.setTop (mkF m 49 #[.val (.long x1), .second, .val (.long x2), .second, .val (.long x3), .second, .val (.int x4), .val (.int zJ1_0), .val (.int zJ2_0), .val (.ref sa), .unset, .unset, .unset, .unset] [(.ref sa), (.ref a), (.ref a)]))
      refine Go.of (fun _ q => XS.lloadN X4.here hx rfl (hb hby at_49) rfl q) ?_
      show Go _ _ _ _ _ _ _ (T4.setTop (mkF m 50 #[.val (.long x1), .second, .val (.long x2), .second, .val (.long x3), .second, .val (.int x4), .val (.int zJ1_0), .val (.int zJ2_0), .val (.ref sa), .unset, .unset, .unset, .unset] [(.long x1), (.ref sa), (.ref a), (.ref a)]))
      refine Go.special X4 hx hZ (y := (⟨"com/example/lane/lane/AccessRecord", "<init>", "(Ljava/lang/String;J)V"⟩ : MethodName)) (a := a) (argsL := [(.ref sa), (.long x1)]) rfl hown (hw _ (List.mem_of_getElem? (i := 29) rfl)) (hw _ (List.mem_of_getElem? (i := 30) rfl)) (hw _ (List.mem_of_getElem? (i := 28) rfl)) (hw _ (List.mem_of_getElem? (i := 31) rfl)) (by decide) 1 e4 (rm6 l Z a0 hw a sa x1 .null (0 : Int64) (0 : Int32) (0 : Int32) (0 : Int64) h4 n0 Zs E_a F_a_client F_a_start F_a_ended F_a_cut F_a_end g_a) (by decide) (by decide) (by decide) (by decide) (g := (mkF m 50 #[.val (.long x1), .second, .val (.long x2), .second, .val (.long x3), .second, .val (.int x4), .val (.int zJ1_0), .val (.int zJ2_0), .val (.ref sa), .unset, .unset, .unset, .unset] [(.long x1), (.ref sa), (.ref a), (.ref a)])) rfl (by rw [hml]; rfl) (rest := [(.ref a)]) (lenOf pd4 rfl) rfl (by show 2 * 0 + _ ≤ _; exact Nat.le_of_eq rfl) (hb hby at_50) ?_
      intro T5 v5 L5 X5 q5
      obtain ⟨rfl, Nq5, K5, f5_0, f5_1, f5_2, f5_3, f5_4⟩ := q5
      have N5 := Fr.app N3 Nq5
      have Zs := Nat.le_trans Zs K5.1
      have Kp := Kp.trans K5 (allS (P := fun x => x ∈ [] ∨ h0.size ≤ x) (Or.inr sz_a) all0)
      have Od := Od.keep K5 (allS (P := fun x => n0 ≤ x) g_a all0)
      have E_sa := E_sa.keep K5
      have E_a := E_a.keep K5
      have F_a_start := f5_1
      have F_a_ended := f5_2
      have F_a_cut := f5_3
      have F_a_end := f5_4
      show Go _ _ _ _ _ _ _ (T5.setTop (mkF m 53 #[.val (.long x1), .second, .val (.long x2), .second, .val (.long x3), .second, .val (.int x4), .val (.int zJ1_0), .val (.int zJ2_0), .val (.ref sa), .unset, .unset, .unset, .unset] [(.ref a)]))
      refine Go.of (fun _ q => XS.astore X5.here hx rfl (hb hby at_53) rfl rfl (l' := #[.val (.long x1), .second, .val (.long x2), .second, .val (.long x3), .second, .val (.int x4), .val (.int zJ1_0), .val (.int zJ2_0), .val (.ref sa), .val (.ref a), .unset, .unset, .unset]) rfl q) ?_
      show Go _ _ _ _ _ _ _ (T5.setTop (mkF m 55 #[.val (.long x1), .second, .val (.long x2), .second, .val (.long x3), .second, .val (.int x4), .val (.int zJ1_0), .val (.int zJ2_0), .val (.ref sa), .val (.ref a), .unset, .unset, .unset] []))
      refine Go.of (fun _ q => XS.iconst X5.here hx rfl (hb hby at_55) q) ?_
      show Go _ _ _ _ _ _ _ (T5.setTop (mkF m 56 #[.val (.long x1), .second, .val (.long x2), .second, .val (.long x3), .second, .val (.int x4), .val (.int zJ1_0), .val (.int zJ2_0), .val (.ref sa), .val (.ref a), .unset, .unset, .unset] [(.int (1 : Int32))]))
      refine Go.of (fun _ q => XS.istore X5.here hx rfl (hb hby at_56) rfl (l' := #[.val (.long x1), .second, .val (.long x2), .second, .val (.long x3), .second, .val (.int x4), .val (.int zJ1_0), .val (.int zJ2_0), .val (.ref sa), .val (.ref a), .val (.int (1 : Int32)), .unset, .unset]) rfl q) ?_
      show Go _ _ _ _ _ _ _ (T5.setTop (mkF m 58 #[.val (.long x1), .second, .val (.long x2), .second, .val (.long x3), .second, .val (.int x4), .val (.int zJ1_0), .val (.int zJ2_0), .val (.ref sa), .val (.ref a), .val (.int (1 : Int32)), .unset, .unset] []))
      refine Go.of (fun _ q => XS.iload X5.here hx rfl (hb hby at_58) rfl q) ?_
      show Go _ _ _ _ _ _ _ (T5.setTop (mkF m 60 #[.val (.long x1), .second, .val (.long x2), .second, .val (.long x3), .second, .val (.int x4), .val (.int zJ1_0), .val (.int zJ2_0), .val (.ref sa), .val (.ref a), .val (.int (1 : Int32)), .unset, .unset] [(.int (1 : Int32))]))
      refine Go.of (fun _ q => XS.ifNo X5.here hx rfl (hb hby at_60) rfl ((if0 _ _).trans (feq (by decide)).1) q) ?_
      show Go _ _ _ _ _ _ _ (T5.setTop (mkF m 63 #[.val (.long x1), .second, .val (.long x2), .second, .val (.long x3), .second, .val (.int x4), .val (.int zJ1_0), .val (.int zJ2_0), .val (.ref sa), .val (.ref a), .val (.int (1 : Int32)), .unset, .unset] []))
      refine Go.of (fun _ q => XS.aload X5.here hx rfl (hb hby at_63) rfl rfl q) ?_
      show Go _ _ _ _ _ _ _ (T5.setTop (mkF m 65 #[.val (.long x1), .second, .val (.long x2), .second, .val (.long x3), .second, .val (.int x4), .val (.int zJ1_0), .val (.int zJ2_0), .val (.ref sa), .val (.ref a), .val (.int (1 : Int32)), .unset, .unset] [(.ref a)]))
      refine Go.virtual X5 hx hZ (y := (⟨"com/example/lane/lane/AccessRecord", "duration", "()J"⟩ : MethodName)) (z := (⟨"com/example/lane/lane/AccessRecord", "duration", "()J"⟩ : MethodName)) (a := a) (argsL := []) hown (hw _ (List.mem_of_getElem? (i := 37) rfl)) (hw _ (List.mem_of_getElem? (i := 38) rfl)) (notFace_of_selects (args := #[]) (mvT hZ (hw _ (List.mem_of_getElem? (i := 40) rfl)))) (hw _ (List.mem_of_getElem? (i := 40) rfl)) (hw _ (List.mem_of_getElem? (i := 39) rfl)) (hw _ (List.mem_of_getElem? (i := 28) rfl)) (hw _ (List.mem_of_getElem? (i := 41) rfl)) (by decide) 0 rfl E_a (rm7 l Z a0 hw a x1 (0 : Int64) T5.heap n0 Zs F_a_start F_a_end) (by decide) (by decide) (by decide) (by decide) (g := (mkF m 65 #[.val (.long x1), .second, .val (.long x2), .second, .val (.long x3), .second, .val (.int x4), .val (.int zJ1_0), .val (.int zJ2_0), .val (.ref sa), .val (.ref a), .val (.int (1 : Int32)), .unset, .unset] [(.ref a)])) rfl (by rw [hml]; rfl) (rest := []) (lenOf pd5 rfl) rfl (by show 2 * 0 + _ ≤ _; exact Nat.le_of_eq rfl) (hb hby at_65) ?_
      intro T6 v6 L6 X6 q6
      obtain ⟨rfl, Nq6, e6⟩ := q6
      have N6 := Fr.app N5 Nq6
      show Go _ _ _ _ _ _ _ (T6.setTop (mkF m 68 #[.val (.long x1), .second, .val (.long x2), .second, .val (.long x3), .second, .val (.int x4), .val (.int zJ1_0), .val (.int zJ2_0), .val (.ref sa), .val (.ref a), .val (.int (1 : Int32)), .unset, .unset] [(.long ((0 : Int64) - x1))]))
      refine Go.of (fun _ q => XS.lconst X6.here hx rfl (hb hby at_68) q) ?_
      show Go _ _ _ _ _ _ _ (T6.setTop (mkF m 69 #[.val (.long x1), .second, .val (.long x2), .second, .val (.long x3), .second, .val (.int x4), .val (.int zJ1_0), .val (.int zJ2_0), .val (.ref sa), .val (.ref a), .val (.int (1 : Int32)), .unset, .unset] [(.long (0 : Int64)), (.long ((0 : Int64) - x1))]))
      refine Go.of (fun _ q => XS.lloadN X6.here hx rfl (hb hby at_69) rfl q) ?_
      show Go _ _ _ _ _ _ _ (T6.setTop (mkF m 70 #[.val (.long x1), .second, .val (.long x2), .second, .val (.long x3), .second, .val (.int x4), .val (.int zJ1_0), .val (.int zJ2_0), .val (.ref sa), .val (.ref a), .val (.int (1 : Int32)), .unset, .unset] [(.long x1), (.long (0 : Int64)), (.long ((0 : Int64) - x1))]))
      refine Go.of (fun _ q => XS.lsub X6.here hx rfl (hb hby at_70) rfl q) ?_
      show Go _ _ _ _ _ _ _ (T6.setTop (mkF m 71 #[.val (.long x1), .second, .val (.long x2), .second, .val (.long x3), .second, .val (.int x4), .val (.int zJ1_0), .val (.int zJ2_0), .val (.ref sa), .val (.ref a), .val (.int (1 : Int32)), .unset, .unset] [(.long ((0 : Int64) - x1)), (.long ((0 : Int64) - x1))]))
      refine Go.of (fun _ q => XS.lcmp X6.here hx rfl (hb hby at_71) rfl q) ?_
      show Go _ _ _ _ _ _ _ (T6.setTop (mkF m 72 #[.val (.long x1), .second, .val (.long x2), .second, .val (.long x3), .second, .val (.int x4), .val (.int zJ1_0), .val (.int zJ2_0), .val (.ref sa), .val (.ref a), .val (.int (1 : Int32)), .unset, .unset] [(.int (lcmpW ((0 : Int64) - x1) ((0 : Int64) - x1)))]))
      refine Go.of (fun _ q => XS.ifNo X6.here hx rfl (hb hby at_72) rfl ((if0 _ _).trans (teq ((lw_eq ((0 : Int64) - x1) ((0 : Int64) - x1)).mpr rfl)).2) q) ?_
      show Go _ _ _ _ _ _ _ (T6.setTop (mkF m 75 #[.val (.long x1), .second, .val (.long x2), .second, .val (.long x3), .second, .val (.int x4), .val (.int zJ1_0), .val (.int zJ2_0), .val (.ref sa), .val (.ref a), .val (.int (1 : Int32)), .unset, .unset] []))
      refine Go.of (fun _ q => XS.iconst X6.here hx rfl (hb hby at_75) q) ?_
      show Go _ _ _ _ _ _ _ (T6.setTop (mkF m 76 #[.val (.long x1), .second, .val (.long x2), .second, .val (.long x3), .second, .val (.int x4), .val (.int zJ1_0), .val (.int zJ2_0), .val (.ref sa), .val (.ref a), .val (.int (1 : Int32)), .unset, .unset] [(.int (1 : Int32))]))
      refine Go.of (fun _ q => XS.goto X6.here hx rfl (pc0 := 76) (pc' := 80) rfl (hb hby at_76) (by decide) (by decide) q) ?_
      show Go _ _ _ _ _ _ _ (T6.setTop (mkF m 80 #[.val (.long x1), .second, .val (.long x2), .second, .val (.long x3), .second, .val (.int x4), .val (.int zJ1_0), .val (.int zJ2_0), .val (.ref sa), .val (.ref a), .val (.int (1 : Int32)), .unset, .unset] [(.int (1 : Int32))]))
      refine Go.of (fun _ q => XS.istore X6.here hx rfl (hb hby at_80) rfl (l' := #[.val (.long x1), .second, .val (.long x2), .second, .val (.long x3), .second, .val (.int x4), .val (.int zJ1_0), .val (.int zJ2_0), .val (.ref sa), .val (.ref a), .val (.int (1 : Int32)), .unset, .unset]) rfl q) ?_
      show Go _ _ _ _ _ _ _ (T6.setTop (mkF m 82 #[.val (.long x1), .second, .val (.long x2), .second, .val (.long x3), .second, .val (.int x4), .val (.int zJ1_0), .val (.int zJ2_0), .val (.ref sa), .val (.ref a), .val (.int (1 : Int32)), .unset, .unset] []))
      refine Go.of (fun _ q => XS.iload X6.here hx rfl (hb hby at_82) rfl q) ?_
      show Go _ _ _ _ _ _ _ (T6.setTop (mkF m 84 #[.val (.long x1), .second, .val (.long x2), .second, .val (.long x3), .second, .val (.int x4), .val (.int zJ1_0), .val (.int zJ2_0), .val (.ref sa), .val (.ref a), .val (.int (1 : Int32)), .unset, .unset] [(.int (1 : Int32))]))
      refine Go.of (fun _ q => XS.ifNo X6.here hx rfl (hb hby at_84) rfl ((if0 _ _).trans (feq (by decide)).1) q) ?_
      show Go _ _ _ _ _ _ _ (T6.setTop (mkF m 87 #[.val (.long x1), .second, .val (.long x2), .second, .val (.long x3), .second, .val (.int x4), .val (.int zJ1_0), .val (.int zJ2_0), .val (.ref sa), .val (.ref a), .val (.int (1 : Int32)), .unset, .unset] []))
      refine Go.of (fun _ q => XS.aload X6.here hx rfl (hb hby at_87) rfl rfl q) ?_
      show Go _ _ _ _ _ _ _ (T6.setTop (mkF m 89 #[.val (.long x1), .second, .val (.long x2), .second, .val (.long x3), .second, .val (.int x4), .val (.int zJ1_0), .val (.int zJ2_0), .val (.ref sa), .val (.ref a), .val (.int (1 : Int32)), .unset, .unset] [(.ref a)]))
      refine Go.virtual X6 hx hZ (y := (⟨"com/example/lane/lane/AccessRecord", "cut", "()Z"⟩ : MethodName)) (z := (⟨"com/example/lane/lane/AccessRecord", "cut", "()Z"⟩ : MethodName)) (a := a) (argsL := []) hown (hw _ (List.mem_of_getElem? (i := 44) rfl)) (hw _ (List.mem_of_getElem? (i := 45) rfl)) (notFace_of_selects (args := #[]) (mvT hZ (hw _ (List.mem_of_getElem? (i := 47) rfl)))) (hw _ (List.mem_of_getElem? (i := 47) rfl)) (hw _ (List.mem_of_getElem? (i := 46) rfl)) (hw _ (List.mem_of_getElem? (i := 28) rfl)) (hw _ (List.mem_of_getElem? (i := 48) rfl)) (by decide) 0 e6 E_a (rm8 l Z a0 hw a (0 : Int32) T5.heap n0 Zs F_a_cut (Or.inl rfl)) (by decide) (by decide) (by decide) (by decide) (g := (mkF m 89 #[.val (.long x1), .second, .val (.long x2), .second, .val (.long x3), .second, .val (.int x4), .val (.int zJ1_0), .val (.int zJ2_0), .val (.ref sa), .val (.ref a), .val (.int (1 : Int32)), .unset, .unset] [(.ref a)])) rfl (by rw [hml]; rfl) (rest := []) (lenOf pd6 rfl) rfl (by show 2 * 0 + _ ≤ _; exact Nat.le_of_eq rfl) (hb hby at_89) ?_
      intro T7 v7 L7 X7 q7
      obtain ⟨rfl, Nq7, e7⟩ := q7
      have N7 := Fr.app N6 Nq7
      show Go _ _ _ _ _ _ _ (T7.setTop (mkF m 92 #[.val (.long x1), .second, .val (.long x2), .second, .val (.long x3), .second, .val (.int x4), .val (.int zJ1_0), .val (.int zJ2_0), .val (.ref sa), .val (.ref a), .val (.int (1 : Int32)), .unset, .unset] [(.int (0 : Int32))]))
      refine Go.of (fun _ q => XS.ifNo X7.here hx rfl (hb hby at_92) rfl ((if0 _ _).trans (teq rfl).2) q) ?_
      show Go _ _ _ _ _ _ _ (T7.setTop (mkF m 95 #[.val (.long x1), .second, .val (.long x2), .second, .val (.long x3), .second, .val (.int x4), .val (.int zJ1_0), .val (.int zJ2_0), .val (.ref sa), .val (.ref a), .val (.int (1 : Int32)), .unset, .unset] []))
      refine Go.of (fun _ q => XS.iconst X7.here hx rfl (hb hby at_95) q) ?_
      show Go _ _ _ _ _ _ _ (T7.setTop (mkF m 96 #[.val (.long x1), .second, .val (.long x2), .second, .val (.long x3), .second, .val (.int x4), .val (.int zJ1_0), .val (.int zJ2_0), .val (.ref sa), .val (.ref a), .val (.int (1 : Int32)), .unset, .unset] [(.int (1 : Int32))]))
      refine Go.of (fun _ q => XS.goto X7.here hx rfl (pc0 := 96) (pc' := 100) rfl (hb hby at_96) (by decide) (by decide) q) ?_
      show Go _ _ _ _ _ _ _ (T7.setTop (mkF m 100 #[.val (.long x1), .second, .val (.long x2), .second, .val (.long x3), .second, .val (.int x4), .val (.int zJ1_0), .val (.int zJ2_0), .val (.ref sa), .val (.ref a), .val (.int (1 : Int32)), .unset, .unset] [(.int (1 : Int32))]))
      refine Go.of (fun _ q => XS.istore X7.here hx rfl (hb hby at_100) rfl (l' := #[.val (.long x1), .second, .val (.long x2), .second, .val (.long x3), .second, .val (.int x4), .val (.int zJ1_0), .val (.int zJ2_0), .val (.ref sa), .val (.ref a), .val (.int (1 : Int32)), .unset, .unset]) rfl q) ?_
      show Go _ _ _ _ _ _ _ (T7.setTop (mkF m 102 #[.val (.long x1), .second, .val (.long x2), .second, .val (.long x3), .second, .val (.int x4), .val (.int zJ1_0), .val (.int zJ2_0), .val (.ref sa), .val (.ref a), .val (.int (1 : Int32)), .unset, .unset] []))
      refine Go.of (fun _ q => XS.aload X7.here hx rfl (hb hby at_102) rfl rfl q) ?_
      show Go _ _ _ _ _ _ _ (T7.setTop (mkF m 104 #[.val (.long x1), .second, .val (.long x2), .second, .val (.long x3), .second, .val (.int x4), .val (.int zJ1_0), .val (.int zJ2_0), .val (.ref sa), .val (.ref a), .val (.int (1 : Int32)), .unset, .unset] [(.ref a)]))
      refine Go.of (fun _ q => XS.iload X7.here hx rfl (hb hby at_104) rfl q) ?_
      show Go _ _ _ _ _ _ _ (T7.setTop (mkF m 106 #[.val (.long x1), .second, .val (.long x2), .second, .val (.long x3), .second, .val (.int x4), .val (.int zJ1_0), .val (.int zJ2_0), .val (.ref sa), .val (.ref a), .val (.int (1 : Int32)), .unset, .unset] [(.int zJ1_0), (.ref a)]))
      refine Go.of (fun _ q => XS.lloadN X7.here hx rfl (hb hby at_106) rfl q) ?_
      show Go _ _ _ _ _ _ _ (T7.setTop (mkF m 107 #[.val (.long x1), .second, .val (.long x2), .second, .val (.long x3), .second, .val (.int x4), .val (.int zJ1_0), .val (.int zJ2_0), .val (.ref sa), .val (.ref a), .val (.int (1 : Int32)), .unset, .unset] [(.long x2), (.int zJ1_0), (.ref a)]))
      refine Go.virtual X7 hx hZ (y := (⟨"com/example/lane/lane/AccessRecord", "end", "(ZJ)Z"⟩ : MethodName)) (z := (⟨"com/example/lane/lane/AccessRecord", "end", "(ZJ)Z"⟩ : MethodName)) (a := a) (argsL := [(.int zJ1_0), (.long x2)]) hown (hw _ (List.mem_of_getElem? (i := 51) rfl)) (hw _ (List.mem_of_getElem? (i := 52) rfl)) (notFace_of_selects (args := #[]) (mvT hZ (hw _ (List.mem_of_getElem? (i := 54) rfl)))) (hw _ (List.mem_of_getElem? (i := 54) rfl)) (hw _ (List.mem_of_getElem? (i := 53) rfl)) (hw _ (List.mem_of_getElem? (i := 28) rfl)) (hw _ (List.mem_of_getElem? (i := 55) rfl)) (by decide) 0 e7 E_a (rm9_0 l Z a0 hw a zJ1_0 x2 x1 (0 : Int32) (0 : Int64) T5.heap n0 Zs E_a F_a_start F_a_ended F_a_cut F_a_end g_a (own_flag hzJ1_0)) (by decide) (by decide) (by decide) (by decide) (g := (mkF m 107 #[.val (.long x1), .second, .val (.long x2), .second, .val (.long x3), .second, .val (.int x4), .val (.int zJ1_0), .val (.int zJ2_0), .val (.ref sa), .val (.ref a), .val (.int (1 : Int32)), .unset, .unset] [(.long x2), (.int zJ1_0), (.ref a)])) rfl (by rw [hml]; rfl) (rest := []) (lenOf pd7 rfl) rfl (by show 2 * 0 + _ ≤ _; exact Nat.le_of_eq rfl) (hb hby at_107) ?_
      intro T8 v8 L8 X8 q8
      obtain ⟨rfl, Nq8, K8, f8_0, f8_1, f8_2, f8_3, f8_4⟩ := q8
      have N8 := Fr.app N7 Nq8
      have Zs := Nat.le_trans Zs K8.1
      have Kp := Kp.trans K8 (allS (P := fun x => x ∈ [] ∨ h0.size ≤ x) (Or.inr sz_a) all0)
      have Od := Od.keep K8 (allS (P := fun x => n0 ≤ x) g_a all0)
      have E_sa := E_sa.keep K8
      have E_a := E_a.keep K8
      have F_a_start := f8_1
      have F_a_ended := f8_2
      have F_a_cut := f8_3
      have F_a_end := f8_4
      show Go _ _ _ _ _ _ _ (T8.setTop (mkF m 110 #[.val (.long x1), .second, .val (.long x2), .second, .val (.long x3), .second, .val (.int x4), .val (.int zJ1_0), .val (.int zJ2_0), .val (.ref sa), .val (.ref a), .val (.int (1 : Int32)), .unset, .unset] [(.int (1 : Int32))]))
      refine Go.of (fun _ q => XS.istore X8.here hx rfl (hb hby at_110) rfl (l' := #[.val (.long x1), .second, .val (.long x2), .second, .val (.long x3), .second, .val (.int x4), .val (.int zJ1_0), .val (.int zJ2_0), .val (.ref sa), .val (.ref a), .val (.int (1 : Int32)), .val (.int (1 : Int32)), .unset]) rfl q) ?_
      show Go _ _ _ _ _ _ _ (T8.setTop (mkF m 112 #[.val (.long x1), .second, .val (.long x2), .second, .val (.long x3), .second, .val (.int x4), .val (.int zJ1_0), .val (.int zJ2_0), .val (.ref sa), .val (.ref a), .val (.int (1 : Int32)), .val (.int (1 : Int32)), .unset] []))
      refine Go.of (fun _ q => XS.iload X8.here hx rfl (hb hby at_112) rfl q) ?_
      show Go _ _ _ _ _ _ _ (T8.setTop (mkF m 114 #[.val (.long x1), .second, .val (.long x2), .second, .val (.long x3), .second, .val (.int x4), .val (.int zJ1_0), .val (.int zJ2_0), .val (.ref sa), .val (.ref a), .val (.int (1 : Int32)), .val (.int (1 : Int32)), .unset] [(.int (1 : Int32))]))
      refine Go.of (fun _ q => XS.ifNo X8.here hx rfl (hb hby at_114) rfl ((if0 _ _).trans (feq (by decide)).1) q) ?_
      show Go _ _ _ _ _ _ _ (T8.setTop (mkF m 117 #[.val (.long x1), .second, .val (.long x2), .second, .val (.long x3), .second, .val (.int x4), .val (.int zJ1_0), .val (.int zJ2_0), .val (.ref sa), .val (.ref a), .val (.int (1 : Int32)), .val (.int (1 : Int32)), .unset] []))
      refine Go.of (fun _ q => XS.iload X8.here hx rfl (hb hby at_117) rfl q) ?_
      show Go _ _ _ _ _ _ _ (T8.setTop (mkF m 119 #[.val (.long x1), .second, .val (.long x2), .second, .val (.long x3), .second, .val (.int x4), .val (.int zJ1_0), .val (.int zJ2_0), .val (.ref sa), .val (.ref a), .val (.int (1 : Int32)), .val (.int (1 : Int32)), .unset] [(.int (1 : Int32))]))
      refine Go.of (fun _ q => XS.ifNo X8.here hx rfl (hb hby at_119) rfl ((if0 _ _).trans (feq (by decide)).1) q) ?_
      show Go _ _ _ _ _ _ _ (T8.setTop (mkF m 122 #[.val (.long x1), .second, .val (.long x2), .second, .val (.long x3), .second, .val (.int x4), .val (.int zJ1_0), .val (.int zJ2_0), .val (.ref sa), .val (.ref a), .val (.int (1 : Int32)), .val (.int (1 : Int32)), .unset] []))
      refine Go.of (fun _ q => XS.iconst X8.here hx rfl (hb hby at_122) q) ?_
      show Go _ _ _ _ _ _ _ (T8.setTop (mkF m 123 #[.val (.long x1), .second, .val (.long x2), .second, .val (.long x3), .second, .val (.int x4), .val (.int zJ1_0), .val (.int zJ2_0), .val (.ref sa), .val (.ref a), .val (.int (1 : Int32)), .val (.int (1 : Int32)), .unset] [(.int (1 : Int32))]))
      refine Go.of (fun _ q => XS.goto X8.here hx rfl (pc0 := 123) (pc' := 127) rfl (hb hby at_123) (by decide) (by decide) q) ?_
      show Go _ _ _ _ _ _ _ (T8.setTop (mkF m 127 #[.val (.long x1), .second, .val (.long x2), .second, .val (.long x3), .second, .val (.int x4), .val (.int zJ1_0), .val (.int zJ2_0), .val (.ref sa), .val (.ref a), .val (.int (1 : Int32)), .val (.int (1 : Int32)), .unset] [(.int (1 : Int32))]))
      refine Go.of (fun _ q => XS.istore X8.here hx rfl (hb hby at_127) rfl (l' := #[.val (.long x1), .second, .val (.long x2), .second, .val (.long x3), .second, .val (.int x4), .val (.int zJ1_0), .val (.int zJ2_0), .val (.ref sa), .val (.ref a), .val (.int (1 : Int32)), .val (.int (1 : Int32)), .unset]) rfl q) ?_
      show Go _ _ _ _ _ _ _ (T8.setTop (mkF m 129 #[.val (.long x1), .second, .val (.long x2), .second, .val (.long x3), .second, .val (.int x4), .val (.int zJ1_0), .val (.int zJ2_0), .val (.ref sa), .val (.ref a), .val (.int (1 : Int32)), .val (.int (1 : Int32)), .unset] []))
      refine Go.of (fun _ q => XS.iload X8.here hx rfl (hb hby at_129) rfl q) ?_
      show Go _ _ _ _ _ _ _ (T8.setTop (mkF m 131 #[.val (.long x1), .second, .val (.long x2), .second, .val (.long x3), .second, .val (.int x4), .val (.int zJ1_0), .val (.int zJ2_0), .val (.ref sa), .val (.ref a), .val (.int (1 : Int32)), .val (.int (1 : Int32)), .unset] [(.int (1 : Int32))]))
      refine Go.of (fun _ q => XS.ifNo X8.here hx rfl (hb hby at_131) rfl ((if0 _ _).trans (feq (by decide)).1) q) ?_
      show Go _ _ _ _ _ _ _ (T8.setTop (mkF m 134 #[.val (.long x1), .second, .val (.long x2), .second, .val (.long x3), .second, .val (.int x4), .val (.int zJ1_0), .val (.int zJ2_0), .val (.ref sa), .val (.ref a), .val (.int (1 : Int32)), .val (.int (1 : Int32)), .unset] []))
      refine Go.of (fun _ q => XS.aload X8.here hx rfl (hb hby at_134) rfl rfl q) ?_
      show Go _ _ _ _ _ _ _ (T8.setTop (mkF m 136 #[.val (.long x1), .second, .val (.long x2), .second, .val (.long x3), .second, .val (.int x4), .val (.int zJ1_0), .val (.int zJ2_0), .val (.ref sa), .val (.ref a), .val (.int (1 : Int32)), .val (.int (1 : Int32)), .unset] [(.ref a)]))
      refine Go.virtual X8 hx hZ (y := (⟨"com/example/lane/lane/AccessRecord", "cut", "()Z"⟩ : MethodName)) (z := (⟨"com/example/lane/lane/AccessRecord", "cut", "()Z"⟩ : MethodName)) (a := a) (argsL := []) hown (hw _ (List.mem_of_getElem? (i := 44) rfl)) (hw _ (List.mem_of_getElem? (i := 45) rfl)) (notFace_of_selects (args := #[]) (mvT hZ (hw _ (List.mem_of_getElem? (i := 47) rfl)))) (hw _ (List.mem_of_getElem? (i := 47) rfl)) (hw _ (List.mem_of_getElem? (i := 46) rfl)) (hw _ (List.mem_of_getElem? (i := 28) rfl)) (hw _ (List.mem_of_getElem? (i := 48) rfl)) (by decide) 0 rfl E_a (rm8 l Z a0 hw a zJ1_0 T8.heap n0 Zs F_a_cut (own_flag hzJ1_0)) (by decide) (by decide) (by decide) (by decide) (g := (mkF m 136 #[.val (.long x1), .second, .val (.long x2), .second, .val (.long x3), .second, .val (.int x4), .val (.int zJ1_0), .val (.int zJ2_0), .val (.ref sa), .val (.ref a), .val (.int (1 : Int32)), .val (.int (1 : Int32)), .unset] [(.ref a)])) rfl (by rw [hml]; rfl) (rest := []) (lenOf pd6 rfl) rfl (by show 2 * 0 + _ ≤ _; exact Nat.le_of_eq rfl) (hb hby at_136) ?_
      intro T9 v9 L9 X9 q9
      obtain ⟨rfl, Nq9, e9⟩ := q9
      have N9 := Fr.app N8 Nq9
      show Go _ _ _ _ _ _ _ (T9.setTop (mkF m 139 #[.val (.long x1), .second, .val (.long x2), .second, .val (.long x3), .second, .val (.int x4), .val (.int zJ1_0), .val (.int zJ2_0), .val (.ref sa), .val (.ref a), .val (.int (1 : Int32)), .val (.int (1 : Int32)), .unset] [(.int zJ1_0)]))
      refine Go.of (fun _ q => XS.iload X9.here hx rfl (hb hby at_139) rfl q) ?_
      show Go _ _ _ _ _ _ _ (T9.setTop (mkF m 141 #[.val (.long x1), .second, .val (.long x2), .second, .val (.long x3), .second, .val (.int x4), .val (.int zJ1_0), .val (.int zJ2_0), .val (.ref sa), .val (.ref a), .val (.int (1 : Int32)), .val (.int (1 : Int32)), .unset] [(.int zJ1_0), (.int zJ1_0)]))
      refine Go.of (fun _ q => XS.icmpNo X9.here hx rfl (hb hby at_141) rfl (teq rfl).2 q) ?_
      show Go _ _ _ _ _ _ _ (T9.setTop (mkF m 144 #[.val (.long x1), .second, .val (.long x2), .second, .val (.long x3), .second, .val (.int x4), .val (.int zJ1_0), .val (.int zJ2_0), .val (.ref sa), .val (.ref a), .val (.int (1 : Int32)), .val (.int (1 : Int32)), .unset] []))
      refine Go.of (fun _ q => XS.iconst X9.here hx rfl (hb hby at_144) q) ?_
      show Go _ _ _ _ _ _ _ (T9.setTop (mkF m 145 #[.val (.long x1), .second, .val (.long x2), .second, .val (.long x3), .second, .val (.int x4), .val (.int zJ1_0), .val (.int zJ2_0), .val (.ref sa), .val (.ref a), .val (.int (1 : Int32)), .val (.int (1 : Int32)), .unset] [(.int (1 : Int32))]))
      refine Go.of (fun _ q => XS.goto X9.here hx rfl (pc0 := 145) (pc' := 149) rfl (hb hby at_145) (by decide) (by decide) q) ?_
      show Go _ _ _ _ _ _ _ (T9.setTop (mkF m 149 #[.val (.long x1), .second, .val (.long x2), .second, .val (.long x3), .second, .val (.int x4), .val (.int zJ1_0), .val (.int zJ2_0), .val (.ref sa), .val (.ref a), .val (.int (1 : Int32)), .val (.int (1 : Int32)), .unset] [(.int (1 : Int32))]))
      refine Go.of (fun _ q => XS.istore X9.here hx rfl (hb hby at_149) rfl (l' := #[.val (.long x1), .second, .val (.long x2), .second, .val (.long x3), .second, .val (.int x4), .val (.int zJ1_0), .val (.int zJ2_0), .val (.ref sa), .val (.ref a), .val (.int (1 : Int32)), .val (.int (1 : Int32)), .unset]) rfl q) ?_
      show Go _ _ _ _ _ _ _ (T9.setTop (mkF m 151 #[.val (.long x1), .second, .val (.long x2), .second, .val (.long x3), .second, .val (.int x4), .val (.int zJ1_0), .val (.int zJ2_0), .val (.ref sa), .val (.ref a), .val (.int (1 : Int32)), .val (.int (1 : Int32)), .unset] []))
      refine Go.of (fun _ q => XS.iload X9.here hx rfl (hb hby at_151) rfl q) ?_
      show Go _ _ _ _ _ _ _ (T9.setTop (mkF m 153 #[.val (.long x1), .second, .val (.long x2), .second, .val (.long x3), .second, .val (.int x4), .val (.int zJ1_0), .val (.int zJ2_0), .val (.ref sa), .val (.ref a), .val (.int (1 : Int32)), .val (.int (1 : Int32)), .unset] [(.int (1 : Int32))]))
      refine Go.of (fun _ q => XS.ifNo X9.here hx rfl (hb hby at_153) rfl ((if0 _ _).trans (feq (by decide)).1) q) ?_
      show Go _ _ _ _ _ _ _ (T9.setTop (mkF m 156 #[.val (.long x1), .second, .val (.long x2), .second, .val (.long x3), .second, .val (.int x4), .val (.int zJ1_0), .val (.int zJ2_0), .val (.ref sa), .val (.ref a), .val (.int (1 : Int32)), .val (.int (1 : Int32)), .unset] []))
      refine Go.of (fun _ q => XS.aload X9.here hx rfl (hb hby at_156) rfl rfl q) ?_
      show Go _ _ _ _ _ _ _ (T9.setTop (mkF m 158 #[.val (.long x1), .second, .val (.long x2), .second, .val (.long x3), .second, .val (.int x4), .val (.int zJ1_0), .val (.int zJ2_0), .val (.ref sa), .val (.ref a), .val (.int (1 : Int32)), .val (.int (1 : Int32)), .unset] [(.ref a)]))
      refine Go.virtual X9 hx hZ (y := (⟨"com/example/lane/lane/AccessRecord", "duration", "()J"⟩ : MethodName)) (z := (⟨"com/example/lane/lane/AccessRecord", "duration", "()J"⟩ : MethodName)) (a := a) (argsL := []) hown (hw _ (List.mem_of_getElem? (i := 37) rfl)) (hw _ (List.mem_of_getElem? (i := 38) rfl)) (notFace_of_selects (args := #[]) (mvT hZ (hw _ (List.mem_of_getElem? (i := 40) rfl)))) (hw _ (List.mem_of_getElem? (i := 40) rfl)) (hw _ (List.mem_of_getElem? (i := 39) rfl)) (hw _ (List.mem_of_getElem? (i := 28) rfl)) (hw _ (List.mem_of_getElem? (i := 41) rfl)) (by decide) 0 e9 E_a (rm7 l Z a0 hw a x1 x2 T8.heap n0 Zs F_a_start F_a_end) (by decide) (by decide) (by decide) (by decide) (g := (mkF m 158 #[.val (.long x1), .second, .val (.long x2), .second, .val (.long x3), .second, .val (.int x4), .val (.int zJ1_0), .val (.int zJ2_0), .val (.ref sa), .val (.ref a), .val (.int (1 : Int32)), .val (.int (1 : Int32)), .unset] [(.ref a)])) rfl (by rw [hml]; rfl) (rest := []) (lenOf pd5 rfl) rfl (by show 2 * 0 + _ ≤ _; exact Nat.le_of_eq rfl) (hb hby at_158) ?_
      intro T10 v10 L10 X10 q10
      obtain ⟨rfl, Nq10, e10⟩ := q10
      have N10 := Fr.app N9 Nq10
      show Go _ _ _ _ _ _ _ (T10.setTop (mkF m 161 #[.val (.long x1), .second, .val (.long x2), .second, .val (.long x3), .second, .val (.int x4), .val (.int zJ1_0), .val (.int zJ2_0), .val (.ref sa), .val (.ref a), .val (.int (1 : Int32)), .val (.int (1 : Int32)), .unset] [(.long (x2 - x1))]))
      refine Go.of (fun _ q => XS.lloadN X10.here hx rfl (hb hby at_161) rfl q) ?_
      show Go _ _ _ _ _ _ _ (T10.setTop (mkF m 162 #[.val (.long x1), .second, .val (.long x2), .second, .val (.long x3), .second, .val (.int x4), .val (.int zJ1_0), .val (.int zJ2_0), .val (.ref sa), .val (.ref a), .val (.int (1 : Int32)), .val (.int (1 : Int32)), .unset] [(.long x2), (.long (x2 - x1))]))
      refine Go.of (fun _ q => XS.lloadN X10.here hx rfl (hb hby at_162) rfl q) ?_
      show Go _ _ _ _ _ _ _ (T10.setTop (mkF m 163 #[.val (.long x1), .second, .val (.long x2), .second, .val (.long x3), .second, .val (.int x4), .val (.int zJ1_0), .val (.int zJ2_0), .val (.ref sa), .val (.ref a), .val (.int (1 : Int32)), .val (.int (1 : Int32)), .unset] [(.long x1), (.long x2), (.long (x2 - x1))]))
      refine Go.of (fun _ q => XS.lsub X10.here hx rfl (hb hby at_163) rfl q) ?_
      show Go _ _ _ _ _ _ _ (T10.setTop (mkF m 164 #[.val (.long x1), .second, .val (.long x2), .second, .val (.long x3), .second, .val (.int x4), .val (.int zJ1_0), .val (.int zJ2_0), .val (.ref sa), .val (.ref a), .val (.int (1 : Int32)), .val (.int (1 : Int32)), .unset] [(.long (x2 - x1)), (.long (x2 - x1))]))
      refine Go.of (fun _ q => XS.lcmp X10.here hx rfl (hb hby at_164) rfl q) ?_
      show Go _ _ _ _ _ _ _ (T10.setTop (mkF m 165 #[.val (.long x1), .second, .val (.long x2), .second, .val (.long x3), .second, .val (.int x4), .val (.int zJ1_0), .val (.int zJ2_0), .val (.ref sa), .val (.ref a), .val (.int (1 : Int32)), .val (.int (1 : Int32)), .unset] [(.int (lcmpW (x2 - x1) (x2 - x1)))]))
      refine Go.of (fun _ q => XS.ifNo X10.here hx rfl (hb hby at_165) rfl ((if0 _ _).trans (teq ((lw_eq (x2 - x1) (x2 - x1)).mpr rfl)).2) q) ?_
      show Go _ _ _ _ _ _ _ (T10.setTop (mkF m 168 #[.val (.long x1), .second, .val (.long x2), .second, .val (.long x3), .second, .val (.int x4), .val (.int zJ1_0), .val (.int zJ2_0), .val (.ref sa), .val (.ref a), .val (.int (1 : Int32)), .val (.int (1 : Int32)), .unset] []))
      refine Go.of (fun _ q => XS.iconst X10.here hx rfl (hb hby at_168) q) ?_
      show Go _ _ _ _ _ _ _ (T10.setTop (mkF m 169 #[.val (.long x1), .second, .val (.long x2), .second, .val (.long x3), .second, .val (.int x4), .val (.int zJ1_0), .val (.int zJ2_0), .val (.ref sa), .val (.ref a), .val (.int (1 : Int32)), .val (.int (1 : Int32)), .unset] [(.int (1 : Int32))]))
      refine Go.of (fun _ q => XS.goto X10.here hx rfl (pc0 := 169) (pc' := 173) rfl (hb hby at_169) (by decide) (by decide) q) ?_
      show Go _ _ _ _ _ _ _ (T10.setTop (mkF m 173 #[.val (.long x1), .second, .val (.long x2), .second, .val (.long x3), .second, .val (.int x4), .val (.int zJ1_0), .val (.int zJ2_0), .val (.ref sa), .val (.ref a), .val (.int (1 : Int32)), .val (.int (1 : Int32)), .unset] [(.int (1 : Int32))]))
      refine Go.of (fun _ q => XS.istore X10.here hx rfl (hb hby at_173) rfl (l' := #[.val (.long x1), .second, .val (.long x2), .second, .val (.long x3), .second, .val (.int x4), .val (.int zJ1_0), .val (.int zJ2_0), .val (.ref sa), .val (.ref a), .val (.int (1 : Int32)), .val (.int (1 : Int32)), .unset]) rfl q) ?_
      show Go _ _ _ _ _ _ _ (T10.setTop (mkF m 175 #[.val (.long x1), .second, .val (.long x2), .second, .val (.long x3), .second, .val (.int x4), .val (.int zJ1_0), .val (.int zJ2_0), .val (.ref sa), .val (.ref a), .val (.int (1 : Int32)), .val (.int (1 : Int32)), .unset] []))
      refine Go.of (fun _ q => XS.aload X10.here hx rfl (hb hby at_175) rfl rfl q) ?_
      show Go _ _ _ _ _ _ _ (T10.setTop (mkF m 177 #[.val (.long x1), .second, .val (.long x2), .second, .val (.long x3), .second, .val (.int x4), .val (.int zJ1_0), .val (.int zJ2_0), .val (.ref sa), .val (.ref a), .val (.int (1 : Int32)), .val (.int (1 : Int32)), .unset] [(.ref a)]))
      refine Go.of (fun _ q => XS.iload X10.here hx rfl (hb hby at_177) rfl q) ?_
      show Go _ _ _ _ _ _ _ (T10.setTop (mkF m 179 #[.val (.long x1), .second, .val (.long x2), .second, .val (.long x3), .second, .val (.int x4), .val (.int zJ1_0), .val (.int zJ2_0), .val (.ref sa), .val (.ref a), .val (.int (1 : Int32)), .val (.int (1 : Int32)), .unset] [(.int zJ2_0), (.ref a)]))
      refine Go.of (fun _ q => XS.lload X10.here hx rfl (hb hby at_179) rfl q) ?_
      show Go _ _ _ _ _ _ _ (T10.setTop (mkF m 181 #[.val (.long x1), .second, .val (.long x2), .second, .val (.long x3), .second, .val (.int x4), .val (.int zJ1_0), .val (.int zJ2_0), .val (.ref sa), .val (.ref a), .val (.int (1 : Int32)), .val (.int (1 : Int32)), .unset] [(.long x3), (.int zJ2_0), (.ref a)]))
      refine Go.virtual X10 hx hZ (y := (⟨"com/example/lane/lane/AccessRecord", "end", "(ZJ)Z"⟩ : MethodName)) (z := (⟨"com/example/lane/lane/AccessRecord", "end", "(ZJ)Z"⟩ : MethodName)) (a := a) (argsL := [(.int zJ2_0), (.long x3)]) hown (hw _ (List.mem_of_getElem? (i := 51) rfl)) (hw _ (List.mem_of_getElem? (i := 52) rfl)) (notFace_of_selects (args := #[]) (mvT hZ (hw _ (List.mem_of_getElem? (i := 54) rfl)))) (hw _ (List.mem_of_getElem? (i := 54) rfl)) (hw _ (List.mem_of_getElem? (i := 53) rfl)) (hw _ (List.mem_of_getElem? (i := 28) rfl)) (hw _ (List.mem_of_getElem? (i := 55) rfl)) (by decide) 0 e10 E_a (rm9_1 l Z a0 hw a zJ2_0 x3 T8.heap n0 Zs F_a_ended) (by decide) (by decide) (by decide) (by decide) (g := (mkF m 181 #[.val (.long x1), .second, .val (.long x2), .second, .val (.long x3), .second, .val (.int x4), .val (.int zJ1_0), .val (.int zJ2_0), .val (.ref sa), .val (.ref a), .val (.int (1 : Int32)), .val (.int (1 : Int32)), .unset] [(.long x3), (.int zJ2_0), (.ref a)])) rfl (by rw [hml]; rfl) (rest := []) (lenOf pd7 rfl) rfl (by show 2 * 0 + _ ≤ _; exact Nat.le_of_eq rfl) (hb hby at_181) ?_
      intro T11 v11 L11 X11 q11
      obtain ⟨rfl, Nq11, e11⟩ := q11
      have N11 := Fr.app N10 Nq11
      show Go _ _ _ _ _ _ _ (T11.setTop (mkF m 184 #[.val (.long x1), .second, .val (.long x2), .second, .val (.long x3), .second, .val (.int x4), .val (.int zJ1_0), .val (.int zJ2_0), .val (.ref sa), .val (.ref a), .val (.int (1 : Int32)), .val (.int (1 : Int32)), .unset] [(.int (0 : Int32))]))
      refine Go.of (fun _ q => XS.istore X11.here hx rfl (hb hby at_184) rfl (l' := #[.val (.long x1), .second, .val (.long x2), .second, .val (.long x3), .second, .val (.int x4), .val (.int zJ1_0), .val (.int zJ2_0), .val (.ref sa), .val (.ref a), .val (.int (1 : Int32)), .val (.int (1 : Int32)), .val (.int (0 : Int32))]) rfl q) ?_
      show Go _ _ _ _ _ _ _ (T11.setTop (mkF m 186 #[.val (.long x1), .second, .val (.long x2), .second, .val (.long x3), .second, .val (.int x4), .val (.int zJ1_0), .val (.int zJ2_0), .val (.ref sa), .val (.ref a), .val (.int (1 : Int32)), .val (.int (1 : Int32)), .val (.int (0 : Int32))] []))
      refine Go.of (fun _ q => XS.iload X11.here hx rfl (hb hby at_186) rfl q) ?_
      show Go _ _ _ _ _ _ _ (T11.setTop (mkF m 188 #[.val (.long x1), .second, .val (.long x2), .second, .val (.long x3), .second, .val (.int x4), .val (.int zJ1_0), .val (.int zJ2_0), .val (.ref sa), .val (.ref a), .val (.int (1 : Int32)), .val (.int (1 : Int32)), .val (.int (0 : Int32))] [(.int (1 : Int32))]))
      refine Go.of (fun _ q => XS.ifNo X11.here hx rfl (hb hby at_188) rfl ((if0 _ _).trans (feq (by decide)).1) q) ?_
      show Go _ _ _ _ _ _ _ (T11.setTop (mkF m 191 #[.val (.long x1), .second, .val (.long x2), .second, .val (.long x3), .second, .val (.int x4), .val (.int zJ1_0), .val (.int zJ2_0), .val (.ref sa), .val (.ref a), .val (.int (1 : Int32)), .val (.int (1 : Int32)), .val (.int (0 : Int32))] []))
      refine Go.of (fun _ q => XS.iload X11.here hx rfl (hb hby at_191) rfl q) ?_
      show Go _ _ _ _ _ _ _ (T11.setTop (mkF m 193 #[.val (.long x1), .second, .val (.long x2), .second, .val (.long x3), .second, .val (.int x4), .val (.int zJ1_0), .val (.int zJ2_0), .val (.ref sa), .val (.ref a), .val (.int (1 : Int32)), .val (.int (1 : Int32)), .val (.int (0 : Int32))] [(.int (0 : Int32))]))
      refine Go.of (fun _ q => XS.ifNo X11.here hx rfl (hb hby at_193) rfl ((if0 _ _).trans (teq rfl).2) q) ?_
      show Go _ _ _ _ _ _ _ (T11.setTop (mkF m 196 #[.val (.long x1), .second, .val (.long x2), .second, .val (.long x3), .second, .val (.int x4), .val (.int zJ1_0), .val (.int zJ2_0), .val (.ref sa), .val (.ref a), .val (.int (1 : Int32)), .val (.int (1 : Int32)), .val (.int (0 : Int32))] []))
      refine Go.of (fun _ q => XS.iconst X11.here hx rfl (hb hby at_196) q) ?_
      show Go _ _ _ _ _ _ _ (T11.setTop (mkF m 197 #[.val (.long x1), .second, .val (.long x2), .second, .val (.long x3), .second, .val (.int x4), .val (.int zJ1_0), .val (.int zJ2_0), .val (.ref sa), .val (.ref a), .val (.int (1 : Int32)), .val (.int (1 : Int32)), .val (.int (0 : Int32))] [(.int (1 : Int32))]))
      refine Go.of (fun _ q => XS.goto X11.here hx rfl (pc0 := 197) (pc' := 201) rfl (hb hby at_197) (by decide) (by decide) q) ?_
      show Go _ _ _ _ _ _ _ (T11.setTop (mkF m 201 #[.val (.long x1), .second, .val (.long x2), .second, .val (.long x3), .second, .val (.int x4), .val (.int zJ1_0), .val (.int zJ2_0), .val (.ref sa), .val (.ref a), .val (.int (1 : Int32)), .val (.int (1 : Int32)), .val (.int (0 : Int32))] [(.int (1 : Int32))]))
      refine Go.of (fun _ q => XS.istore X11.here hx rfl (hb hby at_201) rfl (l' := #[.val (.long x1), .second, .val (.long x2), .second, .val (.long x3), .second, .val (.int x4), .val (.int zJ1_0), .val (.int zJ2_0), .val (.ref sa), .val (.ref a), .val (.int (1 : Int32)), .val (.int (1 : Int32)), .val (.int (0 : Int32))]) rfl q) ?_
      show Go _ _ _ _ _ _ _ (T11.setTop (mkF m 203 #[.val (.long x1), .second, .val (.long x2), .second, .val (.long x3), .second, .val (.int x4), .val (.int zJ1_0), .val (.int zJ2_0), .val (.ref sa), .val (.ref a), .val (.int (1 : Int32)), .val (.int (1 : Int32)), .val (.int (0 : Int32))] []))
      refine Go.of (fun _ q => XS.iload X11.here hx rfl (hb hby at_203) rfl q) ?_
      show Go _ _ _ _ _ _ _ (T11.setTop (mkF m 205 #[.val (.long x1), .second, .val (.long x2), .second, .val (.long x3), .second, .val (.int x4), .val (.int zJ1_0), .val (.int zJ2_0), .val (.ref sa), .val (.ref a), .val (.int (1 : Int32)), .val (.int (1 : Int32)), .val (.int (0 : Int32))] [(.int (1 : Int32))]))
      refine Go.of (fun _ q => XS.ifNo X11.here hx rfl (hb hby at_205) rfl ((if0 _ _).trans (feq (by decide)).1) q) ?_
      show Go _ _ _ _ _ _ _ (T11.setTop (mkF m 208 #[.val (.long x1), .second, .val (.long x2), .second, .val (.long x3), .second, .val (.int x4), .val (.int zJ1_0), .val (.int zJ2_0), .val (.ref sa), .val (.ref a), .val (.int (1 : Int32)), .val (.int (1 : Int32)), .val (.int (0 : Int32))] []))
      refine Go.of (fun _ q => XS.aload X11.here hx rfl (hb hby at_208) rfl rfl q) ?_
      show Go _ _ _ _ _ _ _ (T11.setTop (mkF m 210 #[.val (.long x1), .second, .val (.long x2), .second, .val (.long x3), .second, .val (.int x4), .val (.int zJ1_0), .val (.int zJ2_0), .val (.ref sa), .val (.ref a), .val (.int (1 : Int32)), .val (.int (1 : Int32)), .val (.int (0 : Int32))] [(.ref a)]))
      refine Go.virtual X11 hx hZ (y := (⟨"com/example/lane/lane/AccessRecord", "cut", "()Z"⟩ : MethodName)) (z := (⟨"com/example/lane/lane/AccessRecord", "cut", "()Z"⟩ : MethodName)) (a := a) (argsL := []) hown (hw _ (List.mem_of_getElem? (i := 44) rfl)) (hw _ (List.mem_of_getElem? (i := 45) rfl)) (notFace_of_selects (args := #[]) (mvT hZ (hw _ (List.mem_of_getElem? (i := 47) rfl)))) (hw _ (List.mem_of_getElem? (i := 47) rfl)) (hw _ (List.mem_of_getElem? (i := 46) rfl)) (hw _ (List.mem_of_getElem? (i := 28) rfl)) (hw _ (List.mem_of_getElem? (i := 48) rfl)) (by decide) 0 e11 E_a (rm8 l Z a0 hw a zJ1_0 T8.heap n0 Zs F_a_cut (own_flag hzJ1_0)) (by decide) (by decide) (by decide) (by decide) (g := (mkF m 210 #[.val (.long x1), .second, .val (.long x2), .second, .val (.long x3), .second, .val (.int x4), .val (.int zJ1_0), .val (.int zJ2_0), .val (.ref sa), .val (.ref a), .val (.int (1 : Int32)), .val (.int (1 : Int32)), .val (.int (0 : Int32))] [(.ref a)])) rfl (by rw [hml]; rfl) (rest := []) (lenOf pd6 rfl) rfl (by show 2 * 0 + _ ≤ _; exact Nat.le_of_eq rfl) (hb hby at_210) ?_
      intro T12 v12 L12 X12 q12
      obtain ⟨rfl, Nq12, e12⟩ := q12
      have N12 := Fr.app N11 Nq12
      show Go _ _ _ _ _ _ _ (T12.setTop (mkF m 213 #[.val (.long x1), .second, .val (.long x2), .second, .val (.long x3), .second, .val (.int x4), .val (.int zJ1_0), .val (.int zJ2_0), .val (.ref sa), .val (.ref a), .val (.int (1 : Int32)), .val (.int (1 : Int32)), .val (.int (0 : Int32))] [(.int zJ1_0)]))
      refine Go.of (fun _ q => XS.iload X12.here hx rfl (hb hby at_213) rfl q) ?_
      show Go _ _ _ _ _ _ _ (T12.setTop (mkF m 215 #[.val (.long x1), .second, .val (.long x2), .second, .val (.long x3), .second, .val (.int x4), .val (.int zJ1_0), .val (.int zJ2_0), .val (.ref sa), .val (.ref a), .val (.int (1 : Int32)), .val (.int (1 : Int32)), .val (.int (0 : Int32))] [(.int zJ1_0), (.int zJ1_0)]))
      refine Go.of (fun _ q => XS.icmpNo X12.here hx rfl (hb hby at_215) rfl (teq rfl).2 q) ?_
      show Go _ _ _ _ _ _ _ (T12.setTop (mkF m 218 #[.val (.long x1), .second, .val (.long x2), .second, .val (.long x3), .second, .val (.int x4), .val (.int zJ1_0), .val (.int zJ2_0), .val (.ref sa), .val (.ref a), .val (.int (1 : Int32)), .val (.int (1 : Int32)), .val (.int (0 : Int32))] []))
      refine Go.of (fun _ q => XS.iconst X12.here hx rfl (hb hby at_218) q) ?_
      show Go _ _ _ _ _ _ _ (T12.setTop (mkF m 219 #[.val (.long x1), .second, .val (.long x2), .second, .val (.long x3), .second, .val (.int x4), .val (.int zJ1_0), .val (.int zJ2_0), .val (.ref sa), .val (.ref a), .val (.int (1 : Int32)), .val (.int (1 : Int32)), .val (.int (0 : Int32))] [(.int (1 : Int32))]))
      refine Go.of (fun _ q => XS.goto X12.here hx rfl (pc0 := 219) (pc' := 223) rfl (hb hby at_219) (by decide) (by decide) q) ?_
      show Go _ _ _ _ _ _ _ (T12.setTop (mkF m 223 #[.val (.long x1), .second, .val (.long x2), .second, .val (.long x3), .second, .val (.int x4), .val (.int zJ1_0), .val (.int zJ2_0), .val (.ref sa), .val (.ref a), .val (.int (1 : Int32)), .val (.int (1 : Int32)), .val (.int (0 : Int32))] [(.int (1 : Int32))]))
      refine Go.of (fun _ q => XS.istore X12.here hx rfl (hb hby at_223) rfl (l' := #[.val (.long x1), .second, .val (.long x2), .second, .val (.long x3), .second, .val (.int x4), .val (.int zJ1_0), .val (.int zJ2_0), .val (.ref sa), .val (.ref a), .val (.int (1 : Int32)), .val (.int (1 : Int32)), .val (.int (0 : Int32))]) rfl q) ?_
      show Go _ _ _ _ _ _ _ (T12.setTop (mkF m 225 #[.val (.long x1), .second, .val (.long x2), .second, .val (.long x3), .second, .val (.int x4), .val (.int zJ1_0), .val (.int zJ2_0), .val (.ref sa), .val (.ref a), .val (.int (1 : Int32)), .val (.int (1 : Int32)), .val (.int (0 : Int32))] []))
      refine Go.of (fun _ q => XS.iload X12.here hx rfl (hb hby at_225) rfl q) ?_
      show Go _ _ _ _ _ _ _ (T12.setTop (mkF m 227 #[.val (.long x1), .second, .val (.long x2), .second, .val (.long x3), .second, .val (.int x4), .val (.int zJ1_0), .val (.int zJ2_0), .val (.ref sa), .val (.ref a), .val (.int (1 : Int32)), .val (.int (1 : Int32)), .val (.int (0 : Int32))] [(.int (1 : Int32))]))
      refine Go.of (fun _ q => XS.ifNo X12.here hx rfl (hb hby at_227) rfl ((if0 _ _).trans (feq (by decide)).1) q) ?_
      show Go _ _ _ _ _ _ _ (T12.setTop (mkF m 230 #[.val (.long x1), .second, .val (.long x2), .second, .val (.long x3), .second, .val (.int x4), .val (.int zJ1_0), .val (.int zJ2_0), .val (.ref sa), .val (.ref a), .val (.int (1 : Int32)), .val (.int (1 : Int32)), .val (.int (0 : Int32))] []))
      refine Go.of (fun _ q => XS.aload X12.here hx rfl (hb hby at_230) rfl rfl q) ?_
      show Go _ _ _ _ _ _ _ (T12.setTop (mkF m 232 #[.val (.long x1), .second, .val (.long x2), .second, .val (.long x3), .second, .val (.int x4), .val (.int zJ1_0), .val (.int zJ2_0), .val (.ref sa), .val (.ref a), .val (.int (1 : Int32)), .val (.int (1 : Int32)), .val (.int (0 : Int32))] [(.ref a)]))
      refine Go.virtual X12 hx hZ (y := (⟨"com/example/lane/lane/AccessRecord", "duration", "()J"⟩ : MethodName)) (z := (⟨"com/example/lane/lane/AccessRecord", "duration", "()J"⟩ : MethodName)) (a := a) (argsL := []) hown (hw _ (List.mem_of_getElem? (i := 37) rfl)) (hw _ (List.mem_of_getElem? (i := 38) rfl)) (notFace_of_selects (args := #[]) (mvT hZ (hw _ (List.mem_of_getElem? (i := 40) rfl)))) (hw _ (List.mem_of_getElem? (i := 40) rfl)) (hw _ (List.mem_of_getElem? (i := 39) rfl)) (hw _ (List.mem_of_getElem? (i := 28) rfl)) (hw _ (List.mem_of_getElem? (i := 41) rfl)) (by decide) 0 e12 E_a (rm7 l Z a0 hw a x1 x2 T8.heap n0 Zs F_a_start F_a_end) (by decide) (by decide) (by decide) (by decide) (g := (mkF m 232 #[.val (.long x1), .second, .val (.long x2), .second, .val (.long x3), .second, .val (.int x4), .val (.int zJ1_0), .val (.int zJ2_0), .val (.ref sa), .val (.ref a), .val (.int (1 : Int32)), .val (.int (1 : Int32)), .val (.int (0 : Int32))] [(.ref a)])) rfl (by rw [hml]; rfl) (rest := []) (lenOf pd5 rfl) rfl (by show 2 * 0 + _ ≤ _; exact Nat.le_of_eq rfl) (hb hby at_232) ?_
      intro T13 v13 L13 X13 q13
      obtain ⟨rfl, Nq13, e13⟩ := q13
      have N13 := Fr.app N12 Nq13
      show Go _ _ _ _ _ _ _ (T13.setTop (mkF m 235 #[.val (.long x1), .second, .val (.long x2), .second, .val (.long x3), .second, .val (.int x4), .val (.int zJ1_0), .val (.int zJ2_0), .val (.ref sa), .val (.ref a), .val (.int (1 : Int32)), .val (.int (1 : Int32)), .val (.int (0 : Int32))] [(.long (x2 - x1))]))
      refine Go.of (fun _ q => XS.lloadN X13.here hx rfl (hb hby at_235) rfl q) ?_
      show Go _ _ _ _ _ _ _ (T13.setTop (mkF m 236 #[.val (.long x1), .second, .val (.long x2), .second, .val (.long x3), .second, .val (.int x4), .val (.int zJ1_0), .val (.int zJ2_0), .val (.ref sa), .val (.ref a), .val (.int (1 : Int32)), .val (.int (1 : Int32)), .val (.int (0 : Int32))] [(.long x2), (.long (x2 - x1))]))
      refine Go.of (fun _ q => XS.lloadN X13.here hx rfl (hb hby at_236) rfl q) ?_
      show Go _ _ _ _ _ _ _ (T13.setTop (mkF m 237 #[.val (.long x1), .second, .val (.long x2), .second, .val (.long x3), .second, .val (.int x4), .val (.int zJ1_0), .val (.int zJ2_0), .val (.ref sa), .val (.ref a), .val (.int (1 : Int32)), .val (.int (1 : Int32)), .val (.int (0 : Int32))] [(.long x1), (.long x2), (.long (x2 - x1))]))
      refine Go.of (fun _ q => XS.lsub X13.here hx rfl (hb hby at_237) rfl q) ?_
      show Go _ _ _ _ _ _ _ (T13.setTop (mkF m 238 #[.val (.long x1), .second, .val (.long x2), .second, .val (.long x3), .second, .val (.int x4), .val (.int zJ1_0), .val (.int zJ2_0), .val (.ref sa), .val (.ref a), .val (.int (1 : Int32)), .val (.int (1 : Int32)), .val (.int (0 : Int32))] [(.long (x2 - x1)), (.long (x2 - x1))]))
      refine Go.of (fun _ q => XS.lcmp X13.here hx rfl (hb hby at_238) rfl q) ?_
      show Go _ _ _ _ _ _ _ (T13.setTop (mkF m 239 #[.val (.long x1), .second, .val (.long x2), .second, .val (.long x3), .second, .val (.int x4), .val (.int zJ1_0), .val (.int zJ2_0), .val (.ref sa), .val (.ref a), .val (.int (1 : Int32)), .val (.int (1 : Int32)), .val (.int (0 : Int32))] [(.int (lcmpW (x2 - x1) (x2 - x1)))]))
      refine Go.of (fun _ q => XS.ifNo X13.here hx rfl (hb hby at_239) rfl ((if0 _ _).trans (teq ((lw_eq (x2 - x1) (x2 - x1)).mpr rfl)).2) q) ?_
      show Go _ _ _ _ _ _ _ (T13.setTop (mkF m 242 #[.val (.long x1), .second, .val (.long x2), .second, .val (.long x3), .second, .val (.int x4), .val (.int zJ1_0), .val (.int zJ2_0), .val (.ref sa), .val (.ref a), .val (.int (1 : Int32)), .val (.int (1 : Int32)), .val (.int (0 : Int32))] []))
      refine Go.of (fun _ q => XS.iconst X13.here hx rfl (hb hby at_242) q) ?_
      show Go _ _ _ _ _ _ _ (T13.setTop (mkF m 243 #[.val (.long x1), .second, .val (.long x2), .second, .val (.long x3), .second, .val (.int x4), .val (.int zJ1_0), .val (.int zJ2_0), .val (.ref sa), .val (.ref a), .val (.int (1 : Int32)), .val (.int (1 : Int32)), .val (.int (0 : Int32))] [(.int (1 : Int32))]))
      refine Go.of (fun _ q => XS.goto X13.here hx rfl (pc0 := 243) (pc' := 247) rfl (hb hby at_243) (by decide) (by decide) q) ?_
      show Go _ _ _ _ _ _ _ (T13.setTop (mkF m 247 #[.val (.long x1), .second, .val (.long x2), .second, .val (.long x3), .second, .val (.int x4), .val (.int zJ1_0), .val (.int zJ2_0), .val (.ref sa), .val (.ref a), .val (.int (1 : Int32)), .val (.int (1 : Int32)), .val (.int (0 : Int32))] [(.int (1 : Int32))]))
      refine Go.of (fun _ q => XS.istore X13.here hx rfl (hb hby at_247) rfl (l' := #[.val (.long x1), .second, .val (.long x2), .second, .val (.long x3), .second, .val (.int x4), .val (.int zJ1_0), .val (.int zJ2_0), .val (.ref sa), .val (.ref a), .val (.int (1 : Int32)), .val (.int (1 : Int32)), .val (.int (0 : Int32))]) rfl q) ?_
      show Go _ _ _ _ _ _ _ (T13.setTop (mkF m 249 #[.val (.long x1), .second, .val (.long x2), .second, .val (.long x3), .second, .val (.int x4), .val (.int zJ1_0), .val (.int zJ2_0), .val (.ref sa), .val (.ref a), .val (.int (1 : Int32)), .val (.int (1 : Int32)), .val (.int (0 : Int32))] []))
      refine Go.of (fun _ q => XS.iload X13.here hx rfl (hb hby at_249) rfl q) ?_
      show Go _ _ _ _ _ _ _ (T13.setTop (mkF m 251 #[.val (.long x1), .second, .val (.long x2), .second, .val (.long x3), .second, .val (.int x4), .val (.int zJ1_0), .val (.int zJ2_0), .val (.ref sa), .val (.ref a), .val (.int (1 : Int32)), .val (.int (1 : Int32)), .val (.int (0 : Int32))] [(.int (1 : Int32))]))
      refine Go.retN X13 hx hlk (t := .boolean) hret (by simp) (hb hby at_251) rfl (by decide) (by decide) ?_
      rw [e13]
      exact ⟨rfl, N13⟩
    by_cases c18 : (x4 &&& (2 : Int32)) = (0 : Int32)
    · refine Go.of (fun _ q => XS.ifYes X0.here hx rfl (pc0 := 18) (pc' := 25) rfl (hb hby at_18) rfl ((if0 _ _).trans (teq c18).1) (by decide) (by decide) q) ?_
      show Go _ _ _ _ _ _ _ (s₁.setTop (mkF m 25 #[.val (.long x1), .second, .val (.long x2), .second, .val (.long x3), .second, .val (.int x4), .val (.int zJ1_0), .unset, .unset, .unset, .unset, .unset, .unset] []))
      refine Go.of (fun _ q => XS.iconst X0.here hx rfl (hb hby at_25) q) ?_
      show Go _ _ _ _ _ _ _ (s₁.setTop (mkF m 26 #[.val (.long x1), .second, .val (.long x2), .second, .val (.long x3), .second, .val (.int x4), .val (.int zJ1_0), .unset, .unset, .unset, .unset, .unset, .unset] [(.int (0 : Int32))]))
      exact J2 _ (by rw [if_pos c18])
    · refine Go.of (fun _ q => XS.ifNo X0.here hx rfl (hb hby at_18) rfl ((if0 _ _).trans (feq c18).1) q) ?_
      show Go _ _ _ _ _ _ _ (s₁.setTop (mkF m 21 #[.val (.long x1), .second, .val (.long x2), .second, .val (.long x3), .second, .val (.int x4), .val (.int zJ1_0), .unset, .unset, .unset, .unset, .unset, .unset] []))
      refine Go.of (fun _ q => XS.iconst X0.here hx rfl (hb hby at_21) q) ?_
      show Go _ _ _ _ _ _ _ (s₁.setTop (mkF m 22 #[.val (.long x1), .second, .val (.long x2), .second, .val (.long x3), .second, .val (.int x4), .val (.int zJ1_0), .unset, .unset, .unset, .unset, .unset, .unset] [(.int (1 : Int32))]))
      refine Go.of (fun _ q => XS.goto X0.here hx rfl (pc0 := 22) (pc' := 26) rfl (hb hby at_22) (by decide) (by decide) q) ?_
      show Go _ _ _ _ _ _ _ (s₁.setTop (mkF m 26 #[.val (.long x1), .second, .val (.long x2), .second, .val (.long x3), .second, .val (.int x4), .val (.int zJ1_0), .unset, .unset, .unset, .unset, .unset, .unset] [(.int (1 : Int32))]))
      exact J2 _ (by rw [if_neg c18])
  by_cases c4 : (x4 &&& (1 : Int32)) = (0 : Int32)
  · refine Go.of (fun _ q => XS.ifYes X0.here hx rfl (pc0 := 4) (pc' := 11) rfl (hb hby at_4) rfl ((if0 _ _).trans (teq c4).1) (by decide) (by decide) q) ?_
    show Go _ _ _ _ _ _ _ (s₁.setTop (mkF m 11 #[.val (.long x1), .second, .val (.long x2), .second, .val (.long x3), .second, .val (.int x4), .unset, .unset, .unset, .unset, .unset, .unset, .unset] []))
    refine Go.of (fun _ q => XS.iconst X0.here hx rfl (hb hby at_11) q) ?_
    show Go _ _ _ _ _ _ _ (s₁.setTop (mkF m 12 #[.val (.long x1), .second, .val (.long x2), .second, .val (.long x3), .second, .val (.int x4), .unset, .unset, .unset, .unset, .unset, .unset, .unset] [(.int (0 : Int32))]))
    exact J1 _ (by rw [if_pos c4])
  · refine Go.of (fun _ q => XS.ifNo X0.here hx rfl (hb hby at_4) rfl ((if0 _ _).trans (feq c4).1) q) ?_
    show Go _ _ _ _ _ _ _ (s₁.setTop (mkF m 7 #[.val (.long x1), .second, .val (.long x2), .second, .val (.long x3), .second, .val (.int x4), .unset, .unset, .unset, .unset, .unset, .unset, .unset] []))
    refine Go.of (fun _ q => XS.iconst X0.here hx rfl (hb hby at_7) q) ?_
    show Go _ _ _ _ _ _ _ (s₁.setTop (mkF m 8 #[.val (.long x1), .second, .val (.long x2), .second, .val (.long x3), .second, .val (.int x4), .unset, .unset, .unset, .unset, .unset, .unset, .unset] [(.int (1 : Int32))]))
    refine Go.of (fun _ q => XS.goto X0.here hx rfl (pc0 := 8) (pc' := 12) rfl (hb hby at_8) (by decide) (by decide) q) ?_
    show Go _ _ _ _ _ _ _ (s₁.setTop (mkF m 12 #[.val (.long x1), .second, .val (.long x2), .second, .val (.long x3), .second, .val (.int x4), .unset, .unset, .unset, .unset, .unset, .unset, .unset] [(.int (1 : Int32))]))
    exact J1 _ (by rw [if_neg c4])
set_option maxRecDepth 65536 in
set_option maxHeartbeats 40000000 in
theorem comes_1 {Post : Tables → Env → Array Value → State → Outcome → State → Prop} (hpost : ∀ tb e args s v u, (limb_1_1.after args s (.returned v) u = true ∧ limb_1_2.after args s (.returned v) u = true ∧ True) → FrameEnd s (.returned v) u (Jvm.fieldLocs frame_1_writes args s ++ Jvm.arrayLocs frame_1_arrays args s ++ Jvm.staticLocs frame_1_statics s) 16 128 → Post tb e args s (.returned v) u) :
    ArmFor flags0 classFile x code maxLocals ret World_1 tables_1 room_1 Calls_1 rest_1 Pre_1 Post := by
  intro l hfl _ _ p e ha hc hk s m args below hf hA hF happ hP
  obtain ⟨hcalls, hrest, hpre⟩ := hP
  obtain ⟨-, -, -, hnamed, -, -, -, hat⟩ := (Spec.applies_iff hf).mp happ
  obtain ⟨hg, hn⟩ := and_e (Cond.before_iff.mp (show (Jvm.Cond.and given_1 narrow_1).before args s = true from hpre))
  obtain ⟨g1, g2⟩ := and_e hg
  obtain ⟨g3, g4⟩ := and_e g2
  obtain ⟨g5, g6⟩ := and_e g4
  obtain ⟨g7, g8⟩ := and_e g6
  obtain ⟨w0, w1, w2, w3, rfl⟩ : ∃ w0 w1 w2 w3 : Value, args = #[w0, w1, w2, w3] := by
    have hs : args.size = 4 := by simpa [Cond.value, given_1] using g1
    obtain ⟨L⟩ := args
    match L, hs with
    | [w0, w1, w2, w3], _ => exact ⟨w0, w1, w2, w3, rfl⟩
  have hw := fun d (hd : d ∈ tables_1) => atoms_spec (ws := Jvm.Cond.code x code maxLocals ret :: tables_1) hat d (List.mem_cons_of_mem _ hd)
  have hfit : Fit s := fun {y c} hc i hi => by
    obtain ⟨ha, rfl⟩ := Array.getElem?_eq_some_iff.mp hc
    have q := List.all_eq_true.mp ((Array.all_eq_true_iff_forall_mem.mp hF) _ (Array.getElem_mem ha)) i (List.mem_range.mpr hi)
    simpa [Array.getElem?_eq_getElem hi] using q
  obtain ⟨hsets, hown0⟩ := atoms_of _ (rest_1_c_eq ▸ (show rest_1_c.before _ s = true from hrest))
  have hr0 := Cond.before_iff.mp hown0
  obtain ⟨i0, ei0⟩ := isL_v g3
  obtain rfl : w0 = (.long i0) := Option.some.inj ei0
  obtain ⟨i1, ei1⟩ := isL_v g5
  obtain rfl : w1 = (.long i1) := Option.some.inj ei1
  obtain ⟨i2, ei2⟩ := isL_v g7
  obtain rfl : w2 = (.long i2) := Option.some.inj ei2
  obtain ⟨i3, ei3⟩ := is_v g8
  obtain rfl : w3 = (.int i3) := Option.some.inj ei3
  obtain ⟨cs, ecs⟩ := is_v (Cond.before_iff.mp (hsets _ (List.mem_of_getElem? (i := 1) rfl)))
  have Scs := Sta.start ecs (Or.inl (hsets _ (List.mem_of_getElem? (i := 0) rfl)))
  have hcs := eqi_no (Cond.before_iff.mp (hsets _ (List.mem_of_getElem? (i := 2) rfl))) ecs
  obtain ⟨n, o, h1, h2, h3, _, L, rfl, ⟨rfl, N⟩, hq⟩ := rm0 l s _ hw i0 i1 i2 i3 cs s.heap s.heap.size (Nat.le_refl _) (Old.start s) Scs hcs tables_1 p e ha hc hk s m _ below hf ((Spec.applies_iff_loose hf).mp happ).1 ⟨rfl, State.Warmed39.refl s, rfl⟩ trivial
  refine ⟨n, _, h1, h2, h3, hpost _ _ _ _ _ _ ⟨Cond.after_iff.mpr rfl, Cond.after_iff.mpr (eq_i res_at (Term.int_eval (1)) rfl), trivial⟩ ⟨hq.1, hq.2.1, (hq.2.2.sift fun y hy => Or.inr (N y hy)).mono (by decide) (by decide)⟩⟩
theorem main_1_1 : Claimed_1_1 := comes_1 fun _ _ _ _ _ _ h hF => ⟨h.1, hF⟩
theorem main_1_2 : Claimed_1_2 := comes_1 fun _ _ _ _ _ _ h hF => ⟨h.2.1, hF⟩
end Jvm.Pilot.@@N@@
namespace Jvm.Pilot.@@N@@
open Jvm Jvm.ClassFile Sem Op Lib Jvm.Free Jvm.Stand Jvm.Pilot.@@N@@.Jvm.D
/-! MADE BY PROGRAM (witnessworld.py) out of the Statement's table words and the real class files: 17 classes; the members and pool entries that the words name. The judged class is class 1, her method 1. -/
namespace start1
open Jvm.ClassFile
def u (s : String) : CpInfo := .utf8 (stringToUtf16 s)
/-- a pool by its gaps: so many unusable entries, then the entry; so many at the end -/
def gap : Nat → List CpInfo → List CpInfo
  | 0, r => r
  | n + 1, r => .unusable :: gap n r
def poolList (es : List (Nat × CpInfo)) (last : Nat) : List CpInfo := es.foldr (fun e r => gap e.1 (e.2 :: r)) (gap last [])
def pool (es : List (Nat × CpInfo)) (last : Nat) : Array CpInfo := ⟨poolList es last⟩
def fileOf (pool : Array CpInfo) (this : Nat) (attrs : Array Attribute := #[]) (ms : Array MethodInfo := #[]) (fl : Nat := 33) (sup : Nat := 0) (ifs : Array Nat := #[]) (fds : Array FieldInfo := #[]) : ClassFile where
  minorVersion := 0
  majorVersion := 65
  constantPool := pool
  accessFlags := fl
  thisClass := this
  superClass := sup
  interfaces := ifs
  fields := fds
  methods := ms
  attributes := attrs
def plain (name : String) (sup : Option ClassId) : Class where
  name := name
  kind := .ordinary
  loader := none
  accessFlags := 33
  super := sup
  interfaces := #[]
  cf := none
  fields := #[]
  methods := #[]
  instanceTypes := #[]
  staticTypes := #[]
  resolved := #[]
  callSites := []
  init := .initialized
  statics := none
  mirror := none

def pool0 : Array CpInfo := pool [(5, u "<init>"), (0, u "()V"), (1, .class_ 10), (1, u "java/lang/Object")] 113

def k0c0 : Code := { maxStack := 0, maxLocals := 1, code := object_method_1_code, exceptionTable := #[], attributes := #[] }
def k0m0 : Method := { name := "<init>", desc := "()V", sig := { parameters := [], returnType := none }, accessFlags := 1, code := some k0c0 }
/-- java/lang/Object -/
def k0 : Class := { plain "java/lang/Object" none with
  accessFlags := 33
  interfaces := #[]
  cf := some (fileOf pool0 8 #[] #[{ accessFlags := 1, nameIndex := 5, descriptorIndex := 6, attributes := #[] }] 33 0 #[] #[])
  fields := #[]
  methods := #[k0m0]
  instanceTypes := #[]
  staticTypes := #[]
  resolved := Array.replicate 124 none
  statics := none }

def pool1 : Array CpInfo := pool [(2, .class_ 4), (1, u "java/lang/Object"), (0, u "<init>"), (0, u "()V"), (0, .methodref 8 9), (0, .class_ 10), (0, .nameAndType 11 12), (0, u "java/lang/String"), (0, u "valueOf"), (0, u "(C)Ljava/lang/String;"), (0, .class_ 14), (0, u "com/example/lane/lane/AccessRecord"), (0, .methodref 13 16), (0, .nameAndType 5 17), (0, u "(Ljava/lang/String;J)V"), (0, .methodref 13 19), (0, .nameAndType 20 21), (0, u "duration"), (0, u "()J"), (0, .methodref 13 23), (0, .nameAndType 24 25), (0, u "cut"), (0, u "()Z"), (0, .methodref 13 27), (0, .nameAndType 28 29), (0, u "end"), (0, u "(ZJ)Z"), (0, .class_ 31), (0, u "com/example/lane/lane/AccessRecordEndPinLaw"), (2, u "law"), (0, u "(JJJI)Z")] 3

def k1m0 : Method := { name := "<init>", desc := "()V", sig := { parameters := [], returnType := none }, accessFlags := 1, code := none }
def k1c1 : Code := { maxStack := 6, maxLocals := 14, code := code, exceptionTable := #[], attributes := #[] }
def k1m1 : Method := { name := "law", desc := "(JJJI)Z", sig := { parameters := [.long, .long, .long, .int], returnType := some .boolean }, accessFlags := 9, code := some k1c1 }
/-- com/example/lane/lane/AccessRecordEndPinLaw -/
def k1 : Class := { plain "com/example/lane/lane/AccessRecordEndPinLaw" (some 0) with
  accessFlags := 49
  interfaces := #[]
  cf := some (fileOf pool1 30 #[] #[{ accessFlags := 1, nameIndex := 5, descriptorIndex := 6, attributes := #[] }, { accessFlags := 9, nameIndex := 34, descriptorIndex := 35, attributes := #[] }] 49 2 #[] #[])
  fields := #[]
  methods := #[k1m0, k1m1]
  instanceTypes := #[]
  staticTypes := #[]
  resolved := Array.replicate 39 none
  statics := none }

def pool2 : Array CpInfo := pool [(1, .class_ 2), (0, u "java/io/Serializable"), (0, .class_ 4), (0, u "java/lang/Object")] 2

/-- java/io/Serializable -/
def k2 : Class := { plain "java/io/Serializable" (some 0) with
  accessFlags := 1537
  interfaces := #[]
  cf := some (fileOf pool2 1 #[] #[] 1537 3 #[] #[])
  fields := #[]
  methods := #[]
  instanceTypes := #[]
  staticTypes := #[]
  resolved := Array.replicate 7 none
  statics := none }

def pool3 : Array CpInfo := pool [(1, .class_ 2), (0, u "java/lang/Comparable"), (0, .class_ 4), (0, u "java/lang/Object")] 7

/-- java/lang/Comparable -/
def k3 : Class := { plain "java/lang/Comparable" (some 0) with
  accessFlags := 1537
  interfaces := #[]
  cf := some (fileOf pool3 1 #[] #[] 1537 3 #[] #[])
  fields := #[]
  methods := #[]
  instanceTypes := #[]
  staticTypes := #[]
  resolved := Array.replicate 12 none
  statics := none }

def pool4 : Array CpInfo := pool [(2, .class_ 4), (1, u "java/lang/CharSequence"), (42, .class_ 48), (0, u "java/lang/CharSequence$1CodePointIterator"), (10, .class_ 60), (0, u "java/lang/CharSequence$1CharIterator"), (5, .class_ 67), (0, u "java/lang/Object")] 63

/-- java/lang/CharSequence -/
def k4 : Class := { plain "java/lang/CharSequence" (some 0) with
  accessFlags := 1537
  interfaces := #[]
  cf := some (fileOf pool4 2 #[.nestMembers #[47, 59]] #[] 1537 66 #[] #[])
  fields := #[]
  methods := #[]
  instanceTypes := #[]
  staticTypes := #[]
  resolved := Array.replicate 131 none
  statics := none }

def pool5 : Array CpInfo := pool [(1, .class_ 2), (0, u "java/lang/constant/Constable"), (0, .class_ 4), (0, u "java/lang/Object")] 6

/-- java/lang/constant/Constable -/
def k5 : Class := { plain "java/lang/constant/Constable" (some 0) with
  accessFlags := 1537
  interfaces := #[]
  cf := some (fileOf pool5 1 #[] #[] 1537 3 #[] #[])
  fields := #[]
  methods := #[]
  instanceTypes := #[]
  staticTypes := #[]
  resolved := Array.replicate 11 none
  statics := none }

def pool6 : Array CpInfo := pool [(1, .class_ 2), (0, u "java/lang/constant/ConstantDesc"), (0, .class_ 4), (0, u "java/lang/Object")] 32

/-- java/lang/constant/ConstantDesc -/
def k6 : Class := { plain "java/lang/constant/ConstantDesc" (some 0) with
  accessFlags := 1537
  interfaces := #[]
  cf := some (fileOf pool6 1 #[] #[] 1537 3 #[] #[])
  fields := #[]
  methods := #[]
  instanceTypes := #[]
  staticTypes := #[]
  resolved := Array.replicate 37 none
  statics := none }

def pool7 : Array CpInfo := pool [(1, .methodref 2 3), (0, .class_ 4), (0, .nameAndType 5 6), (0, u "java/lang/Object"), (0, u "<init>"), (0, u "()V"), (2, .fieldref 10 11), (0, .class_ 12), (0, .nameAndType 13 14), (0, u "java/lang/String"), (0, u "value"), (0, u "[B"), (0, .fieldref 10 16), (0, .nameAndType 17 18), (0, u "coder"), (0, u "B"), (2, u "hash"), (0, u "I"), (2, u "hashIsZero"), (0, u "Z"), (11, .fieldref 10 39), (0, .nameAndType 40 26), (0, u "COMPACT_STRINGS"), (12, u "toBytes"), (53, .class_ 109), (1, u "java/lang/StringLatin1"), (99, .methodref 10 210), (0, .nameAndType 5 211), (0, u "([BB)V"), (157, u "(C)Z"), (205, .class_ 576), (0, u "java/lang/CharSequence"), (22, u "CASE_INSENSITIVE_ORDER"), (0, u "Ljava/util/Comparator;"), (181, u "valueOf"), (0, u "(C)Ljava/lang/String;"), (231, .methodref 107 1016), (0, .nameAndType 1017 369), (0, u "canEncode"), (0, .methodref 107 1019), (0, .nameAndType 53 1020), (0, u "(C)[B"), (80, u "serialPersistentFields"), (0, u "[Ljava/io/ObjectStreamField;"), (0, .class_ 1104), (0, u "java/lang/String$CaseInsensitiveComparator"), (1, .class_ 1107), (0, u "java/io/Serializable"), (0, .class_ 1109), (0, u "java/lang/Comparable"), (0, .class_ 1111), (0, u "java/lang/constant/Constable"), (0, .class_ 1113), (0, u "java/lang/constant/ConstantDesc"), (2, u "serialVersionUID"), (0, u "J"), (3, u "REPL"), (0, u "C"), (2, u "LATIN1"), (1, u "UTF16")] 323

def k7m0 : Method := { name := "<init>", desc := "()V", sig := { parameters := [], returnType := none }, accessFlags := 1, code := none }
def k7c1 : Code := { maxStack := 4, maxLocals := 1, code := jdk_42_method_139_code, exceptionTable := #[], attributes := #[] }
def k7m1 : Method := { name := "valueOf", desc := "(C)Ljava/lang/String;", sig := { parameters := [.char], returnType := some (.object "java/lang/String") }, accessFlags := 9, code := some k7c1 }
def k7c2 : Code := { maxStack := 2, maxLocals := 3, code := jdk_42_method_151_code, exceptionTable := #[], attributes := #[] }
def k7m2 : Method := { name := "<init>", desc := "([BB)V", sig := { parameters := [(.array .byte), .byte], returnType := none }, accessFlags := 0, code := some k7c2 }
/-- java/lang/String -/
def k7 : Class := { plain "java/lang/String" (some 0) with
  accessFlags := 49
  interfaces := #[2, 3, 4, 5, 6]
  cf := some (fileOf pool7 10 #[.nestMembers #[1103]] #[{ accessFlags := 1, nameIndex := 5, descriptorIndex := 6, attributes := #[] }, { accessFlags := 9, nameIndex := 782, descriptorIndex := 783, attributes := #[] }, { accessFlags := 0, nameIndex := 5, descriptorIndex := 211, attributes := #[] }] 49 2 #[1106, 1108, 575, 1110, 1112] #[{ accessFlags := 18, nameIndex := 13, descriptorIndex := 14, attributes := #[] }, { accessFlags := 18, nameIndex := 17, descriptorIndex := 18, attributes := #[] }, { accessFlags := 2, nameIndex := 21, descriptorIndex := 22, attributes := #[] }, { accessFlags := 2, nameIndex := 25, descriptorIndex := 26, attributes := #[] }, { accessFlags := 26, nameIndex := 1116, descriptorIndex := 1117, attributes := #[] }, { accessFlags := 24, nameIndex := 40, descriptorIndex := 26, attributes := #[] }, { accessFlags := 26, nameIndex := 1101, descriptorIndex := 1102, attributes := #[] }, { accessFlags := 26, nameIndex := 1121, descriptorIndex := 1122, attributes := #[] }, { accessFlags := 25, nameIndex := 599, descriptorIndex := 600, attributes := #[] }, { accessFlags := 24, nameIndex := 1125, descriptorIndex := 18, attributes := #[] }, { accessFlags := 24, nameIndex := 1127, descriptorIndex := 18, attributes := #[] }])
  fields := #[{ name := "value", type := (.array .byte), accessFlags := 18, slot := 0, constantValue := 0 }, { name := "coder", type := .byte, accessFlags := 18, slot := 1, constantValue := 0 }, { name := "hash", type := .int, accessFlags := 2, slot := 2, constantValue := 0 }, { name := "hashIsZero", type := .boolean, accessFlags := 2, slot := 3, constantValue := 0 }, { name := "serialVersionUID", type := .long, accessFlags := 26, slot := 0, constantValue := 0 }, { name := "COMPACT_STRINGS", type := .boolean, accessFlags := 24, slot := 1, constantValue := 0 }, { name := "serialPersistentFields", type := (.array (.object "java/io/ObjectStreamField")), accessFlags := 26, slot := 2, constantValue := 0 }, { name := "REPL", type := .char, accessFlags := 26, slot := 3, constantValue := 0 }, { name := "CASE_INSENSITIVE_ORDER", type := (.object "java/util/Comparator"), accessFlags := 25, slot := 4, constantValue := 0 }, { name := "LATIN1", type := .byte, accessFlags := 24, slot := 5, constantValue := 0 }, { name := "UTF16", type := .byte, accessFlags := 24, slot := 6, constantValue := 0 }]
  methods := #[k7m0, k7m1, k7m2]
  instanceTypes := #[(.array .byte), .byte, .int, .boolean]
  staticTypes := #[.long, .boolean, (.array (.object "java/io/ObjectStreamField")), .char, (.object "java/util/Comparator"), .byte, .byte]
  resolved := Array.replicate 1451 none
  statics := some 0 }

def pool8 : Array CpInfo := pool [(4, .class_ 6), (1, u "java/lang/Object"), (0, u "<init>"), (0, u "()V"), (5, .class_ 16), (1, u "java/lang/StringLatin1"), (73, u "canEncode"), (14, u "(C)Z"), (15, u "$assertionsDisabled"), (0, u "Z"), (98, .class_ 223), (1, u "java/lang/StringLatin1$LinesSpliterator"), (156, u "toBytes"), (1, u "(C)[B"), (7, .class_ 391), (0, u "java/lang/StringLatin1$CharsSpliterator")] 3

def k8m0 : Method := { name := "<init>", desc := "()V", sig := { parameters := [], returnType := none }, accessFlags := 0, code := none }
def k8c1 : Code := { maxStack := 2, maxLocals := 1, code := jdk_43_method_3_code, exceptionTable := #[], attributes := #[] }
def k8m1 : Method := { name := "canEncode", desc := "(C)Z", sig := { parameters := [.char], returnType := some .boolean }, accessFlags := 9, code := some k8c1 }
def k8c2 : Code := { maxStack := 4, maxLocals := 1, code := jdk_43_method_46_code, exceptionTable := #[], attributes := #[] }
def k8m2 : Method := { name := "toBytes", desc := "(C)[B", sig := { parameters := [.char], returnType := some (.array .byte) }, accessFlags := 9, code := some k8c2 }
/-- java/lang/StringLatin1 -/
def k8 : Class := { plain "java/lang/StringLatin1" (some 0) with
  accessFlags := 48
  interfaces := #[]
  cf := some (fileOf pool8 14 #[.nestMembers #[390, 221]] #[{ accessFlags := 0, nameIndex := 7, descriptorIndex := 8, attributes := #[] }, { accessFlags := 9, nameIndex := 90, descriptorIndex := 105, attributes := #[] }, { accessFlags := 9, nameIndex := 380, descriptorIndex := 382, attributes := #[] }] 48 4 #[] #[{ accessFlags := 4120, nameIndex := 121, descriptorIndex := 122, attributes := #[] }])
  fields := #[{ name := "$assertionsDisabled", type := .boolean, accessFlags := 4120, slot := 0, constantValue := 0 }]
  methods := #[k8m0, k8m1, k8m2]
  instanceTypes := #[]
  staticTypes := #[.boolean]
  resolved := Array.replicate 395 none
  statics := none }

def pool9 : Array CpInfo := pool [(1, .methodref 2 3), (0, .class_ 4), (0, .nameAndType 5 6), (0, u "java/lang/Object"), (0, u "<init>"), (0, u "()V"), (0, .fieldref 8 9), (0, .class_ 10), (0, .nameAndType 11 12), (0, u "com/example/lane/lane/AccessRecord"), (0, u "client"), (0, u "Ljava/lang/String;"), (0, .fieldref 8 14), (0, .nameAndType 15 16), (0, u "start"), (0, u "J"), (2, u "method"), (2, u "target"), (2, u "version"), (2, u "unreadLine"), (2, u "referer"), (2, u "userAgent"), (2, u "status"), (0, u "I"), (2, u "bytes"), (2, u "route"), (2, u "tenant"), (2, u "upstream"), (2, u "node"), (0, u "Lcom/example/lane/lane/config/HostPort;"), (2, u "attempts"), (0, .fieldref 8 59), (0, .nameAndType 60 61), (0, u "ended"), (0, u "Z"), (0, .fieldref 8 63), (0, .nameAndType 64 61), (0, u "cut"), (0, .fieldref 8 66), (0, .nameAndType 67 16), (0, u "end"), (0, u "NO_ANSWER"), (2, u "(Ljava/lang/String;J)V"), (15, u "(ZJ)Z"), (2, u "duration"), (0, u "()J"), (2, u "()Z")] 2

def k9c0 : Code := { maxStack := 3, maxLocals := 4, code := prog_1_method_1_code, exceptionTable := #[], attributes := #[] }
def k9m0 : Method := { name := "<init>", desc := "(Ljava/lang/String;J)V", sig := { parameters := [(.object "java/lang/String"), .long], returnType := none }, accessFlags := 0, code := some k9c0 }
def k9c1 : Code := { maxStack := 3, maxLocals := 4, code := prog_1_method_9_code, exceptionTable := #[], attributes := #[] }
def k9m1 : Method := { name := "end", desc := "(ZJ)Z", sig := { parameters := [.boolean, .long], returnType := some .boolean }, accessFlags := 0, code := some k9c1 }
def k9c2 : Code := { maxStack := 4, maxLocals := 1, code := prog_1_method_11_code, exceptionTable := #[], attributes := #[] }
def k9m2 : Method := { name := "duration", desc := "()J", sig := { parameters := [], returnType := some .long }, accessFlags := 0, code := some k9c2 }
def k9c3 : Code := { maxStack := 1, maxLocals := 1, code := prog_1_method_25_code, exceptionTable := #[], attributes := #[] }
def k9m3 : Method := { name := "cut", desc := "()Z", sig := { parameters := [], returnType := some .boolean }, accessFlags := 0, code := some k9c3 }
/-- com/example/lane/lane/AccessRecord -/
def k9 : Class := { plain "com/example/lane/lane/AccessRecord" (some 0) with
  accessFlags := 32
  interfaces := #[]
  cf := some (fileOf pool9 8 #[] #[{ accessFlags := 0, nameIndex := 5, descriptorIndex := 71, attributes := #[] }, { accessFlags := 0, nameIndex := 67, descriptorIndex := 87, attributes := #[] }, { accessFlags := 0, nameIndex := 90, descriptorIndex := 91, attributes := #[] }, { accessFlags := 0, nameIndex := 64, descriptorIndex := 94, attributes := #[] }] 32 2 #[] #[{ accessFlags := 24, nameIndex := 68, descriptorIndex := 38, attributes := #[] }, { accessFlags := 18, nameIndex := 11, descriptorIndex := 12, attributes := #[] }, { accessFlags := 18, nameIndex := 15, descriptorIndex := 16, attributes := #[] }, { accessFlags := 2, nameIndex := 67, descriptorIndex := 16, attributes := #[] }, { accessFlags := 2, nameIndex := 28, descriptorIndex := 12, attributes := #[] }, { accessFlags := 2, nameIndex := 19, descriptorIndex := 12, attributes := #[] }, { accessFlags := 2, nameIndex := 22, descriptorIndex := 12, attributes := #[] }, { accessFlags := 2, nameIndex := 25, descriptorIndex := 12, attributes := #[] }, { accessFlags := 2, nameIndex := 31, descriptorIndex := 12, attributes := #[] }, { accessFlags := 2, nameIndex := 34, descriptorIndex := 12, attributes := #[] }, { accessFlags := 2, nameIndex := 37, descriptorIndex := 38, attributes := #[] }, { accessFlags := 2, nameIndex := 41, descriptorIndex := 16, attributes := #[] }, { accessFlags := 2, nameIndex := 44, descriptorIndex := 12, attributes := #[] }, { accessFlags := 2, nameIndex := 47, descriptorIndex := 12, attributes := #[] }, { accessFlags := 2, nameIndex := 50, descriptorIndex := 12, attributes := #[] }, { accessFlags := 2, nameIndex := 53, descriptorIndex := 54, attributes := #[] }, { accessFlags := 2, nameIndex := 57, descriptorIndex := 38, attributes := #[] }, { accessFlags := 2, nameIndex := 64, descriptorIndex := 61, attributes := #[] }, { accessFlags := 2, nameIndex := 60, descriptorIndex := 61, attributes := #[] }])
  fields := #[{ name := "NO_ANSWER", type := .int, accessFlags := 24, slot := 0, constantValue := 0 }, { name := "client", type := (.object "java/lang/String"), accessFlags := 18, slot := 0, constantValue := 0 }, { name := "start", type := .long, accessFlags := 18, slot := 1, constantValue := 0 }, { name := "end", type := .long, accessFlags := 2, slot := 2, constantValue := 0 }, { name := "unreadLine", type := (.object "java/lang/String"), accessFlags := 2, slot := 3, constantValue := 0 }, { name := "method", type := (.object "java/lang/String"), accessFlags := 2, slot := 4, constantValue := 0 }, { name := "target", type := (.object "java/lang/String"), accessFlags := 2, slot := 5, constantValue := 0 }, { name := "version", type := (.object "java/lang/String"), accessFlags := 2, slot := 6, constantValue := 0 }, { name := "referer", type := (.object "java/lang/String"), accessFlags := 2, slot := 7, constantValue := 0 }, { name := "userAgent", type := (.object "java/lang/String"), accessFlags := 2, slot := 8, constantValue := 0 }, { name := "status", type := .int, accessFlags := 2, slot := 9, constantValue := 0 }, { name := "bytes", type := .long, accessFlags := 2, slot := 10, constantValue := 0 }, { name := "route", type := (.object "java/lang/String"), accessFlags := 2, slot := 11, constantValue := 0 }, { name := "tenant", type := (.object "java/lang/String"), accessFlags := 2, slot := 12, constantValue := 0 }, { name := "upstream", type := (.object "java/lang/String"), accessFlags := 2, slot := 13, constantValue := 0 }, { name := "node", type := (.object "com/example/lane/lane/config/HostPort"), accessFlags := 2, slot := 14, constantValue := 0 }, { name := "attempts", type := .int, accessFlags := 2, slot := 15, constantValue := 0 }, { name := "cut", type := .boolean, accessFlags := 2, slot := 16, constantValue := 0 }, { name := "ended", type := .boolean, accessFlags := 2, slot := 17, constantValue := 0 }]
  methods := #[k9m0, k9m1, k9m2, k9m3]
  instanceTypes := #[(.object "java/lang/String"), .long, .long, (.object "java/lang/String"), (.object "java/lang/String"), (.object "java/lang/String"), (.object "java/lang/String"), (.object "java/lang/String"), (.object "java/lang/String"), .int, .long, (.object "java/lang/String"), (.object "java/lang/String"), (.object "java/lang/String"), (.object "com/example/lane/lane/config/HostPort"), .int, .boolean, .boolean]
  staticTypes := #[.int]
  resolved := Array.replicate 97 none
  statics := none }

def pool10 : Array CpInfo := pool [(2, .class_ 4), (1, u "java/lang/Object"), (0, u "<init>"), (0, u "()V"), (17, .class_ 26), (1, u "jdk/internal/util/Preconditions"), (28, .class_ 56), (0, u "jdk/internal/util/Preconditions$4"), (57, .class_ 115), (0, u "jdk/internal/util/Preconditions$1"), (7, u "SIOOBE_FORMATTER"), (0, u "Ljava/util/function/BiFunction;"), (0, .class_ 126), (0, u "jdk/internal/util/Preconditions$2"), (3, u "AIOOBE_FORMATTER"), (0, .class_ 132), (0, u "jdk/internal/util/Preconditions$3"), (3, u "IOOBE_FORMATTER")] 57

def k10m0 : Method := { name := "<init>", desc := "()V", sig := { parameters := [], returnType := none }, accessFlags := 1, code := none }
/-- jdk/internal/util/Preconditions -/
def k10 : Class := { plain "jdk/internal/util/Preconditions" (some 0) with
  accessFlags := 33
  interfaces := #[]
  cf := some (fileOf pool10 24 #[.nestMembers #[55, 131, 125, 114]] #[{ accessFlags := 1, nameIndex := 5, descriptorIndex := 6, attributes := #[] }] 33 2 #[] #[{ accessFlags := 25, nameIndex := 123, descriptorIndex := 124, attributes := #[] }, { accessFlags := 25, nameIndex := 130, descriptorIndex := 124, attributes := #[] }, { accessFlags := 25, nameIndex := 136, descriptorIndex := 124, attributes := #[] }])
  fields := #[{ name := "SIOOBE_FORMATTER", type := (.object "java/util/function/BiFunction"), accessFlags := 25, slot := 0, constantValue := 0 }, { name := "AIOOBE_FORMATTER", type := (.object "java/util/function/BiFunction"), accessFlags := 25, slot := 1, constantValue := 0 }, { name := "IOOBE_FORMATTER", type := (.object "java/util/function/BiFunction"), accessFlags := 25, slot := 2, constantValue := 0 }]
  methods := #[k10m0]
  instanceTypes := #[]
  staticTypes := #[(.object "java/util/function/BiFunction"), (.object "java/util/function/BiFunction"), (.object "java/util/function/BiFunction")]
  resolved := Array.replicate 194 none
  statics := some 1 }

def pool11 : Array CpInfo := pool [(9, u "<init>"), (6, .class_ 18), (1, u "java/lang/Object"), (0, u "()V"), (1, .class_ 23), (1, u "jdk/internal/util/ArraysSupport"), (0, u "LOG2_ARRAY_LONG_INDEX_SCALE"), (0, u "I"), (2, u "U"), (0, u "Ljdk/internal/misc/Unsafe;"), (8, u "BIG_ENDIAN"), (0, u "Z"), (8, u "LOG2_BYTE_BIT_SIZE"), (4, u "LOG2_ARRAY_INT_INDEX_SCALE"), (54, u "JLA"), (0, u "Ljdk/internal/access/JavaLangAccess;"), (11, u "LOG2_ARRAY_BOOLEAN_INDEX_SCALE"), (9, u "LOG2_ARRAY_BYTE_INDEX_SCALE"), (5, u "LOG2_ARRAY_CHAR_INDEX_SCALE"), (5, u "LOG2_ARRAY_SHORT_INDEX_SCALE"), (18, u "LOG2_ARRAY_FLOAT_INDEX_SCALE"), (24, u "LOG2_ARRAY_DOUBLE_INDEX_SCALE"), (89, u "T_BOOLEAN"), (2, u "T_CHAR"), (1, u "T_FLOAT"), (1, u "T_DOUBLE"), (1, u "T_BYTE"), (1, u "T_SHORT"), (1, u "T_INT"), (1, u "T_LONG"), (1, u "SOFT_MAX_ARRAY_LENGTH")] 83

def k11m0 : Method := { name := "<init>", desc := "()V", sig := { parameters := [], returnType := none }, accessFlags := 2, code := none }
/-- jdk/internal/util/ArraysSupport -/
def k11 : Class := { plain "jdk/internal/util/ArraysSupport" (some 0) with
  accessFlags := 33
  interfaces := #[]
  cf := some (fileOf pool11 21 #[] #[{ accessFlags := 2, nameIndex := 9, descriptorIndex := 19, attributes := #[] }] 33 16 #[] #[{ accessFlags := 24, nameIndex := 28, descriptorIndex := 29, attributes := #[] }, { accessFlags := 26, nameIndex := 38, descriptorIndex := 39, attributes := #[] }, { accessFlags := 25, nameIndex := 121, descriptorIndex := 25, attributes := #[] }, { accessFlags := 25, nameIndex := 131, descriptorIndex := 25, attributes := #[] }, { accessFlags := 25, nameIndex := 137, descriptorIndex := 25, attributes := #[] }, { accessFlags := 25, nameIndex := 143, descriptorIndex := 25, attributes := #[] }, { accessFlags := 25, nameIndex := 53, descriptorIndex := 25, attributes := #[] }, { accessFlags := 25, nameIndex := 24, descriptorIndex := 25, attributes := #[] }, { accessFlags := 25, nameIndex := 162, descriptorIndex := 25, attributes := #[] }, { accessFlags := 25, nameIndex := 187, descriptorIndex := 25, attributes := #[] }, { accessFlags := 26, nameIndex := 48, descriptorIndex := 25, attributes := #[] }, { accessFlags := 25, nameIndex := 277, descriptorIndex := 25, attributes := #[] }, { accessFlags := 25, nameIndex := 280, descriptorIndex := 25, attributes := #[] }, { accessFlags := 25, nameIndex := 282, descriptorIndex := 25, attributes := #[] }, { accessFlags := 25, nameIndex := 284, descriptorIndex := 25, attributes := #[] }, { accessFlags := 25, nameIndex := 286, descriptorIndex := 25, attributes := #[] }, { accessFlags := 25, nameIndex := 288, descriptorIndex := 25, attributes := #[] }, { accessFlags := 25, nameIndex := 290, descriptorIndex := 25, attributes := #[] }, { accessFlags := 25, nameIndex := 292, descriptorIndex := 25, attributes := #[] }, { accessFlags := 26, nameIndex := 108, descriptorIndex := 109, attributes := #[] }, { accessFlags := 25, nameIndex := 294, descriptorIndex := 25, attributes := #[] }])
  fields := #[{ name := "U", type := (.object "jdk/internal/misc/Unsafe"), accessFlags := 24, slot := 0, constantValue := 0 }, { name := "BIG_ENDIAN", type := .boolean, accessFlags := 26, slot := 1, constantValue := 0 }, { name := "LOG2_ARRAY_BOOLEAN_INDEX_SCALE", type := .int, accessFlags := 25, slot := 2, constantValue := 0 }, { name := "LOG2_ARRAY_BYTE_INDEX_SCALE", type := .int, accessFlags := 25, slot := 3, constantValue := 0 }, { name := "LOG2_ARRAY_CHAR_INDEX_SCALE", type := .int, accessFlags := 25, slot := 4, constantValue := 0 }, { name := "LOG2_ARRAY_SHORT_INDEX_SCALE", type := .int, accessFlags := 25, slot := 5, constantValue := 0 }, { name := "LOG2_ARRAY_INT_INDEX_SCALE", type := .int, accessFlags := 25, slot := 6, constantValue := 0 }, { name := "LOG2_ARRAY_LONG_INDEX_SCALE", type := .int, accessFlags := 25, slot := 7, constantValue := 0 }, { name := "LOG2_ARRAY_FLOAT_INDEX_SCALE", type := .int, accessFlags := 25, slot := 8, constantValue := 0 }, { name := "LOG2_ARRAY_DOUBLE_INDEX_SCALE", type := .int, accessFlags := 25, slot := 9, constantValue := 0 }, { name := "LOG2_BYTE_BIT_SIZE", type := .int, accessFlags := 26, slot := 10, constantValue := 0 }, { name := "T_BOOLEAN", type := .int, accessFlags := 25, slot := 11, constantValue := 0 }, { name := "T_CHAR", type := .int, accessFlags := 25, slot := 12, constantValue := 0 }, { name := "T_FLOAT", type := .int, accessFlags := 25, slot := 13, constantValue := 0 }, { name := "T_DOUBLE", type := .int, accessFlags := 25, slot := 14, constantValue := 0 }, { name := "T_BYTE", type := .int, accessFlags := 25, slot := 15, constantValue := 0 }, { name := "T_SHORT", type := .int, accessFlags := 25, slot := 16, constantValue := 0 }, { name := "T_INT", type := .int, accessFlags := 25, slot := 17, constantValue := 0 }, { name := "T_LONG", type := .int, accessFlags := 25, slot := 18, constantValue := 0 }, { name := "JLA", type := (.object "jdk/internal/access/JavaLangAccess"), accessFlags := 26, slot := 19, constantValue := 0 }, { name := "SOFT_MAX_ARRAY_LENGTH", type := .int, accessFlags := 25, slot := 20, constantValue := 0 }]
  methods := #[k11m0]
  instanceTypes := #[]
  staticTypes := #[(.object "jdk/internal/misc/Unsafe"), .boolean, .int, .int, .int, .int, .int, .int, .int, .int, .int, .int, .int, .int, .int, .int, .int, .int, .int, (.object "jdk/internal/access/JavaLangAccess"), .int]
  resolved := Array.replicate 378 none
  statics := none }

def pool12 : Array CpInfo := pool [(1, u "java/lang/Cloneable"), (0, .class_ 1), (0, u "java/lang/Object"), (0, .class_ 3)] 3

/-- java/lang/Cloneable -/
def k12 : Class := { plain "java/lang/Cloneable" (some 0) with
  accessFlags := 1537
  interfaces := #[]
  cf := some (fileOf pool12 2 #[] #[] 1537 4 #[] #[])
  fields := #[]
  methods := #[]
  instanceTypes := #[]
  staticTypes := #[]
  resolved := Array.replicate 8 none
  statics := none }

/-- the primitive byte -/
def k13 : Class := { plain "byte" none with kind := .primitive 'B', accessFlags := 0x411 }
/-- [B -/
def k14 : Class := { plain "[B" (some 0) with kind := .array 13 .byte, interfaces := #[12, 2], accessFlags := 1041 }

/-- the primitive int -/
def k15 : Class := { plain "int" none with kind := .primitive 'I', accessFlags := 0x411 }
/-- [I -/
def k16 : Class := { plain "[I" (some 0) with kind := .array 15 .int, interfaces := #[12, 2], accessFlags := 1041 }

def heap : Heap := #[{ cls := 7, slots := #[.long 0, .int 1, .null, .int 0, .null, .int 0, .int 0], vm := .statics 7 },
  { cls := 10, slots := #[.null, .null, .null], vm := .statics 10 }]
def classes : Array Class := #[k0, k1, k2, k3, k4, k5, k6, k7, k8, k9, k10, k11, k12, k13, k14, k15, k16]
def interned : List (Array UInt16 × Addr) := []
def slotsUsed : Nat := 10
def theMethod : MethodId := ⟨1, 1⟩
def args0 : Array Value := #[.long 5, .long 6, .long 7, .int 8]
def aboutOver (below : List Frame) : State where
  vm := { classes := classes, interned := interned.toArray }
  heap := heap
  slotsUsed := slotsUsed
  threads := #[{ frames := .invoking theMethod args0 :: below }]
def below0 : List Frame := [.native { method := ⟨0, 0⟩, args := #[] }]
def about1 : State := aboutOver below0
def p0 : Program := .bare "" "" ""
def e0 : Env := launch0.env 0 0 0
theorem w_frames : about1.frames = Frame.invoking theMethod args0 :: below0 := rfl
set_option maxRecDepth 65536 in
theorem w_args : argsFit about1.vm theMethod args0 = true := by decide +kernel
set_option maxRecDepth 65536 in
theorem w_heap : heapFits about1 = true := by decide +kernel
set_option maxRecDepth 65536 in
theorem w_runnable : about1.curStatus? = some .runnable := by decide +kernel
set_option maxRecDepth 65536 in
theorem w_alone : about1.alone = true := by decide +kernel
set_option maxRecDepth 65536 in
theorem w_named : about1.methodNamed? x = some theMethod := by decide +kernel
set_option maxRecDepth 65536 in
theorem w_hears : about1.hears theMethod below0 = true := by decide +kernel
set_option maxRecDepth 65536 in
theorem w_ripe : about1.ripe theMethod args0 below0 = true := by decide +kernel
theorem w_running : about1.status = .running := rfl
set_option maxRecDepth 65536 in
theorem w_room : about1.hasRoom e0.platform room_1 = true :=
  launch0.hasRoom_least _ room_1 (by decide +kernel) (by decide +kernel) (by decide +kernel) (by decide +kernel) (by decide +kernel) (by decide +kernel)
theorem allAtoms_all (ts : List Jvm.Cond) (a : Array Jvm.Value) (st : Jvm.State) : (allAtoms ts).before a st = ts.all (fun c => c.before a st) := by
  induction ts with
  | nil => rfl
  | cons c t ih =>
    show (Jvm.Cond.and c (allAtoms t)).before a st = _
    rw [Jvm.Cond.before_and, ih, List.all_cons]
def words1 : List Jvm.Cond := Jvm.Cond.code x code maxLocals ret :: tables_1
/-- a 'code' word, met by the world's own term for the bytes: nothing is compared byte by byte -/
theorem code_word {y : MethodName} {bytes : ByteArray} {mx : Nat} {rt : Option FieldType} {a : Array Value} {s : State} {m : MethodId} {meth : Method} {c : Code} (h1 : s.methodNamed? y = some m) (h2 : s.vm.method? m = some meth) (h3 : meth.code = some c) (h4 : c.code = bytes)
    (h5 : (c.maxLocals == mx && c.exceptionTable.isEmpty && decide (c.maxStack ≤ mostOperands) && decide (meth.sig.returnType = rt) && !meth.locks && decide (parseMethodDescriptor y.desc = some meth.sig)) = true) : (Jvm.Cond.code y bytes mx rt).before a s = true := by
  simp only [Bool.and_eq_true, beq_iff_eq, Bool.not_eq_true', decide_eq_true_eq] at h5
  obtain ⟨⟨⟨⟨⟨g1, g2⟩, g3⟩, g4⟩, g5⟩, g6⟩ := h5
  simp [Cond.before, Cond.holds, Cond.value, h1, h2, h3, h4, g1, g2, g3, g4, g5, g6]
def isCode : Jvm.Cond → Bool
  | .code _ _ _ _ => true
  | _ => false
theorem all_split {L : List Jvm.Cond} {P : Jvm.Cond → Bool} (h1 : L.all (fun c => isCode c || P c) = true) (h2 : ∀ c ∈ L.filter isCode, P c = true) : L.all P = true := by
  refine List.all_eq_true.mpr fun c hc => ?_
  have h := List.all_eq_true.mp h1 c hc
  rcases Bool.eq_false_or_eq_true (isCode c) with hi | hi
  · exact h2 c (List.mem_filter.mpr ⟨hc, hi⟩)
  · simpa [hi] using h
set_option maxRecDepth 65536 in
theorem w_c0 : (Jvm.Cond.code x code maxLocals ret).before args0 about1 = true := code_word (m := ⟨1, 1⟩) (meth := k1m1) (c := k1c1) (by decide +kernel) rfl rfl rfl (by decide +kernel)
set_option maxRecDepth 65536 in
theorem w_c1 : (Jvm.Cond.code ({ cls := "java/lang/String", name := "valueOf", desc := "(C)Ljava/lang/String;" } : Jvm.MethodName) jdk_42_method_139_code (1 : Nat) (Option.some (Jvm.ClassFile.FieldType.object "java/lang/String"))).before args0 about1 = true := code_word (m := ⟨7, 1⟩) (meth := k7m1) (c := k7c1) (by decide +kernel) rfl rfl rfl (by decide +kernel)
set_option maxRecDepth 65536 in
theorem w_c2 : (Jvm.Cond.code ({ cls := "java/lang/StringLatin1", name := "canEncode", desc := "(C)Z" } : Jvm.MethodName) jdk_43_method_3_code (1 : Nat) (Option.some Jvm.ClassFile.FieldType.boolean)).before args0 about1 = true := code_word (m := ⟨8, 1⟩) (meth := k8m1) (c := k8c1) (by decide +kernel) rfl rfl rfl (by decide +kernel)
set_option maxRecDepth 65536 in
theorem w_c3 : (Jvm.Cond.code ({ cls := "java/lang/StringLatin1", name := "toBytes", desc := "(C)[B" } : Jvm.MethodName) jdk_43_method_46_code (1 : Nat) (Option.some (Jvm.ClassFile.FieldType.array Jvm.ClassFile.FieldType.byte))).before args0 about1 = true := code_word (m := ⟨8, 2⟩) (meth := k8m2) (c := k8c2) (by decide +kernel) rfl rfl rfl (by decide +kernel)
set_option maxRecDepth 65536 in
theorem w_c4 : (Jvm.Cond.code ({ cls := "java/lang/String", name := "<init>", desc := "([BB)V" } : Jvm.MethodName) jdk_42_method_151_code (3 : Nat) (Option.none : Option Jvm.ClassFile.FieldType)).before args0 about1 = true := code_word (m := ⟨7, 2⟩) (meth := k7m2) (c := k7c2) (by decide +kernel) rfl rfl rfl (by decide +kernel)
set_option maxRecDepth 65536 in
theorem w_c5 : (Jvm.Cond.code ({ cls := "java/lang/Object", name := "<init>", desc := "()V" } : Jvm.MethodName) object_method_1_code (1 : Nat) (Option.none : Option Jvm.ClassFile.FieldType)).before args0 about1 = true := code_word (m := ⟨0, 0⟩) (meth := k0m0) (c := k0c0) (by decide +kernel) rfl rfl rfl (by decide +kernel)
set_option maxRecDepth 65536 in
theorem w_c6 : (Jvm.Cond.code ({ cls := "com/example/lane/lane/AccessRecord", name := "<init>", desc := "(Ljava/lang/String;J)V" } : Jvm.MethodName) prog_1_method_1_code (4 : Nat) (Option.none : Option Jvm.ClassFile.FieldType)).before args0 about1 = true := code_word (m := ⟨9, 0⟩) (meth := k9m0) (c := k9c0) (by decide +kernel) rfl rfl rfl (by decide +kernel)
set_option maxRecDepth 65536 in
theorem w_c7 : (Jvm.Cond.code ({ cls := "com/example/lane/lane/AccessRecord", name := "duration", desc := "()J" } : Jvm.MethodName) prog_1_method_11_code (1 : Nat) (Option.some Jvm.ClassFile.FieldType.long)).before args0 about1 = true := code_word (m := ⟨9, 2⟩) (meth := k9m2) (c := k9c2) (by decide +kernel) rfl rfl rfl (by decide +kernel)
set_option maxRecDepth 65536 in
theorem w_c8 : (Jvm.Cond.code ({ cls := "com/example/lane/lane/AccessRecord", name := "cut", desc := "()Z" } : Jvm.MethodName) prog_1_method_25_code (1 : Nat) (Option.some Jvm.ClassFile.FieldType.boolean)).before args0 about1 = true := code_word (m := ⟨9, 3⟩) (meth := k9m3) (c := k9c3) (by decide +kernel) rfl rfl rfl (by decide +kernel)
set_option maxRecDepth 65536 in
theorem w_c9 : (Jvm.Cond.code ({ cls := "com/example/lane/lane/AccessRecord", name := "end", desc := "(ZJ)Z" } : Jvm.MethodName) prog_1_method_9_code (4 : Nat) (Option.some Jvm.ClassFile.FieldType.boolean)).before args0 about1 = true := code_word (m := ⟨9, 1⟩) (meth := k9m1) (c := k9c1) (by decide +kernel) rfl rfl rfl (by decide +kernel)
def codes1 : List Jvm.Cond := [Jvm.Cond.code x code maxLocals ret, Jvm.Cond.code ({ cls := "java/lang/String", name := "valueOf", desc := "(C)Ljava/lang/String;" } : Jvm.MethodName) jdk_42_method_139_code (1 : Nat) (Option.some (Jvm.ClassFile.FieldType.object "java/lang/String")), Jvm.Cond.code ({ cls := "java/lang/StringLatin1", name := "canEncode", desc := "(C)Z" } : Jvm.MethodName) jdk_43_method_3_code (1 : Nat) (Option.some Jvm.ClassFile.FieldType.boolean), Jvm.Cond.code ({ cls := "java/lang/StringLatin1", name := "toBytes", desc := "(C)[B" } : Jvm.MethodName) jdk_43_method_46_code (1 : Nat) (Option.some (Jvm.ClassFile.FieldType.array Jvm.ClassFile.FieldType.byte)), Jvm.Cond.code ({ cls := "java/lang/String", name := "<init>", desc := "([BB)V" } : Jvm.MethodName) jdk_42_method_151_code (3 : Nat) (Option.none : Option Jvm.ClassFile.FieldType), Jvm.Cond.code ({ cls := "java/lang/Object", name := "<init>", desc := "()V" } : Jvm.MethodName) object_method_1_code (1 : Nat) (Option.none : Option Jvm.ClassFile.FieldType), Jvm.Cond.code ({ cls := "com/example/lane/lane/AccessRecord", name := "<init>", desc := "(Ljava/lang/String;J)V" } : Jvm.MethodName) prog_1_method_1_code (4 : Nat) (Option.none : Option Jvm.ClassFile.FieldType), Jvm.Cond.code ({ cls := "com/example/lane/lane/AccessRecord", name := "duration", desc := "()J" } : Jvm.MethodName) prog_1_method_11_code (1 : Nat) (Option.some Jvm.ClassFile.FieldType.long), Jvm.Cond.code ({ cls := "com/example/lane/lane/AccessRecord", name := "cut", desc := "()Z" } : Jvm.MethodName) prog_1_method_25_code (1 : Nat) (Option.some Jvm.ClassFile.FieldType.boolean), Jvm.Cond.code ({ cls := "com/example/lane/lane/AccessRecord", name := "end", desc := "(ZJ)Z" } : Jvm.MethodName) prog_1_method_9_code (4 : Nat) (Option.some Jvm.ClassFile.FieldType.boolean)]
set_option maxRecDepth 65536 in
theorem codes_eq : words1.filter isCode = codes1 := rfl
theorem w_codes : ∀ c ∈ words1.filter isCode, c.before args0 about1 = true := by
  rw [codes_eq]
  intro c hc
  simp only [codes1, List.mem_cons, List.not_mem_nil, or_false] at hc
  rcases hc with rfl | rfl | rfl | rfl | rfl | rfl | rfl | rfl | rfl | rfl
  · exact w_c0
  · exact w_c1
  · exact w_c2
  · exact w_c3
  · exact w_c4
  · exact w_c5
  · exact w_c6
  · exact w_c7
  · exact w_c8
  · exact w_c9
set_option maxRecDepth 65536 in
theorem w_t1 : (words1.take 24).all (fun c => isCode c || c.before args0 about1) = true := by decide +kernel
set_option maxRecDepth 65536 in
theorem w_t2 : ((words1.drop 24).take 24).all (fun c => isCode c || c.before args0 about1) = true := by decide +kernel
set_option maxRecDepth 65536 in
theorem w_t3 : ((words1.drop 24).drop 24).all (fun c => isCode c || c.before args0 about1) = true := by decide +kernel
theorem w_tables : (allAtoms (Jvm.Cond.code x code maxLocals ret :: tables_1)).before args0 about1 = true := by
  rw [allAtoms_all]
  show words1.all (fun c => c.before args0 about1) = true
  refine all_split ?_ w_codes
  rw [← List.take_append_drop 24 words1, List.all_append, w_t1, ← List.take_append_drop 24 (words1.drop 24), List.all_append, w_t2, w_t3]
  rfl
set_option maxRecDepth 65536 in
theorem w_rest : rest_1_c.before args0 about1 = true := by decide +kernel
set_option maxRecDepth 65536 in
theorem w_case : (Jvm.Cond.and given_1 narrow_1).before args0 about1 = true := by decide +kernel
theorem w_applies : (headSpec (Jvm.Cond.code x code maxLocals ret :: tables_1) room_1).applies x e0.platform about1 = true :=
  (Spec.applies_iff w_frames).mpr ⟨w_running, w_runnable, w_alone, w_named, w_hears, w_ripe, w_room, w_tables⟩
theorem atStart : AtStart classFile x code maxLocals ret World_1 tables_1 room_1 Calls_1 rest_1 Pre_1 launch0 p0 e0 about1 theMethod args0 below0 :=
  ⟨lists_1, trivial, launch0.admits_env _ _ _, launch0.least_env, fairChoices_fair.cas, fairChoices_fair.clock, w_frames, w_args, w_heap, w_applies, trivial, w_rest, w_case⟩
end start1
theorem witness_1 : WitnessClaimed_1 := ⟨start1.p0, start1.e0, start1.about1, start1.theMethod, start1.args0, start1.below0, start1.atStart⟩
end Jvm.Pilot.@@N@@
