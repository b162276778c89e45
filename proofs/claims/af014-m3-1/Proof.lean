import JvmDerived
import JvmDerived.Pilot.@@N@@Statement
import JvmDerived.Pilot.@@N@@Code
set_option linter.unusedVariables false
set_option linter.unusedSimpArgs false
namespace Jvm.OwnKit
open Sem ClassFile Op Lib Jvm.Stand Jvm.Free Jvm.LawKit Jvm.RoadKit
section Kit
variable {p : Program} {l : Launch} {e : Env} {R : Room} {s : State} {m : MethodId} {args : Array Value} {below : List Frame} {meth : Method} {c : Code} {T : State} {locs : List Loc} {cells slots : Nat} {Z : State} {a0 : Array Value} {h h0 : Heap} {kc ks : Nat} {Q : Option Value → Heap → List Loc → Prop}
/-- from this state the body comes to its end, and Q holds of what it returns, of the heap there and of the places written -/
def Go (p : Program) (e : Env) (below : List Frame) (s : State) (kc ks : Nat) (Q : Option Value → Heap → List Loc → Prop) (a : State) : Prop :=
  ∃ (t : State) (o : Outcome), Steps p.tables e below a t ∧ t.status = .running ∧ Ended t below o ∧ ∃ v L, o = .returned v ∧ Q v t.heap L ∧ FrameEnd s o t L kc ks
theorem Go.of {a b : State} (st : ∀ t, Steps p.tables e below b t → Steps p.tables e below a t) (k : Go p e below s kc ks Q b) : Go p e below s kc ks Q a := by
  obtain ⟨t, o, h, r⟩ := k
  exact ⟨t, o, st t h, r⟩
theorem pad (X : Stand p l e R s m args below meth c T locs cells slots) {cells' slots' : Nat} (hc : cells ≤ cells') (hs : slots ≤ slots') : Stand p l e R s m args below meth c T locs cells' slots' :=
  ⟨X.admits, X.cas, X.clock, X.frames, X.room, X.hears, X.method, X.code, X.here, X.tail, X.warmed, X.limits, X.bytes, X.same.mono hc hs⟩
theorem Go.leave (X : Stand p l e R s m args below meth c T locs cells slots) (hlk : meth.locks = false) {v : Option Value} (hv : meth.sig.returnType = none → v = none) {g : JFrame}
    (st : ∀ fs, (∀ (f : JFrame) (acts : List Action), f.method = m → f.locked = none → f.entered = [] → (doReturn e (T.setTop f) acts v).1 = T.setFrames fs) → Steps p.tables e below (T.setTop g) (T.setFrames fs))
    (hc : cells ≤ kc) (hs : slots ≤ ks) (q : Q v T.heap locs) : Go p e below s kc ks Q (T.setTop g) := by
  obtain ⟨fs, hr, hrun, hended, hW, hsame⟩ := X.leave hv hlk
  exact ⟨_, _, st fs hr, hrun, hended, v, locs, rfl, q, ⟨_, rfl⟩, hW, hsame.mono hc hs⟩
theorem Go.retI (X : Stand p l e R s m args below meth c T locs cells slots) (hx : p.tables.exec = Jvm.exec) (hlk : meth.locks = false) (hret : meth.sig.returnType = some .int) {pc : Nat} {Ls : Array Slot} {z : Int32} {rest : List Value}
    (hd : decode c.code pc = .ok (.ireturn, 1)) (hc : cells ≤ kc) (hs : slots ≤ ks) (q : Q (some (.int z)) T.heap locs) : Go p e below s kc ks Q (T.setTop (mkF m pc Ls (.int z :: rest))) :=
  Go.leave X hlk (fun h => by rw [hret] at h; cases h) (fun fs hr => retOut X hx hret rfl (Or.inl ⟨rfl, Or.inl rfl, z, rfl⟩) hd hr) hc hs q
theorem Go.retN (X : Stand p l e R s m args below meth c T locs cells slots) (hx : p.tables.exec = Jvm.exec) (hlk : meth.locks = false) {t : FieldType} (hret : meth.sig.returnType = some t) (ht : t = .boolean ∨ t = .byte ∨ t = .char ∨ t = .short) {pc : Nat} {Ls : Array Slot} {z : Int32} {rest : List Value}
    (hd : decode c.code pc = .ok (.ireturn, 1)) (hz : nar t z = z) (hc : cells ≤ kc) (hs : slots ≤ ks) (q : Q (some (.int z)) T.heap locs) : Go p e below s kc ks Q (T.setTop (mkF m pc Ls (.int z :: rest))) :=
  Go.leave X hlk (fun h => by rw [hret] at h; cases h) (fun fs hr => RoadKit.retN X hx hret ht hd (by rw [hz]; exact hr)) hc hs q
theorem Go.retJ (X : Stand p l e R s m args below meth c T locs cells slots) (hx : p.tables.exec = Jvm.exec) (hlk : meth.locks = false) (hret : meth.sig.returnType = some .long) {pc : Nat} {Ls : Array Slot} {z : Int64} {rest : List Value}
    (hd : decode c.code pc = .ok (.lreturn, 1)) (hc : cells ≤ kc) (hs : slots ≤ ks) (q : Q (some (.long z)) T.heap locs) : Go p e below s kc ks Q (T.setTop (mkF m pc Ls (.long z :: rest))) :=
  Go.leave X hlk (fun h => by rw [hret] at h; cases h) (fun fs hr => retOut X hx hret rfl (Or.inr (Or.inl ⟨rfl, rfl, z, rfl⟩)) hd hr) hc hs q
theorem Go.retA (X : Stand p l e R s m args below meth c T locs cells slots) (hx : p.tables.exec = Jvm.exec) (hlk : meth.locks = false) {t : FieldType} (hret : meth.sig.returnType = some t) (ht : t.isReference = true) {pc : Nat} {Ls : Array Slot} {z : Value} {rest : List Value} (hz : z.isRef = true)
    (hd : decode c.code pc = .ok (.areturn, 1)) (hc : cells ≤ kc) (hs : slots ≤ ks) (q : Q (some z) T.heap locs) : Go p e below s kc ks Q (T.setTop (mkF m pc Ls (z :: rest))) :=
  Go.leave X hlk (fun h => by rw [hret] at h; cases h) (fun fs hr => retOut X hx hret (by cases t <;> first | rfl | (simp [FieldType.isReference] at ht; done)) (Or.inr (Or.inr (Or.inr (Or.inr ⟨rfl, ht, hz⟩)))) hd hr) hc hs q
theorem Go.retV (X : Stand p l e R s m args below meth c T locs cells slots) (hx : p.tables.exec = Jvm.exec) (hlk : meth.locks = false) (hret : meth.sig.returnType = none) {pc : Nat} {Ls : Array Slot}
    (hd : decode c.code pc = .ok (.return_, 1)) (hc : cells ≤ kc) (hs : slots ≤ ks) (q : Q none T.heap locs) : Go p e below s kc ks Q (T.setTop (mkF m pc Ls [])) :=
  Go.leave X hlk (fun _ => rfl) (fun fs hr => X.returnOut hx hret hd hr) hc hs q
/-- a body's contract: called with these arguments over this heap it returns, and Q holds -/
def Con (l : Launch) (Z : State) (y : MethodName) (bytes : ByteArray) (maxL : Nat) (ret : Option FieldType) (rm : Room) (as' : Array Value) (h0 : Heap) (Q : Option Value → Heap → List Loc → Prop) : Prop :=
  ∀ ws : List Cond, MetFree l y (head1 (Cond.code y bytes maxL ret :: ws) rm) (fun a U => a = as' ∧ Z.Warmed39 U.vm ∧ U.heap = h0) (fun _ _ _ _ _ => True) (fun _ U o U' => ∃ v L, o = .returned v ∧ Q v U'.heap L ∧ FrameEnd U o U' L rm.cells rm.slots)
theorem Con.intro {y : MethodName} {bytes : ByteArray} {maxL : Nat} {ret : Option FieldType} {rm : Room} {as' : Array Value} {gf : MethodId → JFrame} (hpl : plainFor y = true) (hef : ∀ m, entryFrame m as' maxL = gf m)
    (body : ∀ (p : Program) (e : Env) (s : State) (m : MethodId) (below : List Frame) (meth : Method) (c : Code) (s₁ : State), p.tables.exec = Jvm.exec → c.code = bytes → c.maxLocals = maxL → Z.Warmed39 s.vm → s.vm.findClass y.cls = some m.cls → meth.name = y.name → meth.sig.returnType = ret → meth.locks = false →
      Stand p l e rm s m as' below meth c s₁ [] 0 0 → s₁.heap = h0 → Go p e below s rm.cells rm.slots Q (s₁.setTop (gf m))) : Con l Z y bytes maxL ret rm as' h0 Q := by
  intro ws
  refine MetFree.of_bodySF hpl hisR ?_
  intro p e s m args below meth c s₁ Bd hml hP hK
  obtain ⟨rfl, hZ, hh⟩ := hP
  have k := body p e s m below meth c s₁ Bd.exec Bd.bytes hml hZ (findClass_of_methodNamed Bd.named) (name_of_methodNamed Bd.named Bd.method).1 Bd.returns Bd.notSynchronized (Stand.of_body Bd) (by rw [← hh, Bd.state]; rfl)
  rw [← hef m] at k
  exact k
theorem Go.static (X : Stand p l e R s m args below meth c T locs cells slots) (hx : p.tables.exec = Jvm.exec) (hZ : Z.Warmed39 s.vm) {own : String} {index : Nat} {y : MethodName} {bytes : ByteArray} {maxL : Nat} {ret : Option FieldType} {rm : Room} {Q' : Option Value → Heap → List Loc → Prop} {argsL : List Value}
    (hown : s.vm.findClass own = some m.cls) (w1 : (Cond.methodLink own index y).before a0 Z = true) (w2 : (Cond.static y).before a0 Z = true) (w3 : (Cond.initialized y.cls).before a0 Z = true) (w4 : (Cond.code y bytes maxL ret).before a0 Z = true)
    (hy : y.cls ≠ "java/lang/invoke/MethodHandle" ∧ y.cls ≠ "java/lang/invoke/VarHandle") (W : Nat) (eT : T.heap = h) (K : Con l Z y bytes maxL ret rm argsL.toArray h Q') (hf : rm.frames + 1 ≤ R.frames) (hlo : W + (maxL + 11) + rm.locals ≤ R.locals) (hc : cells + rm.cells ≤ R.cells) (hs : slots + rm.slots ≤ R.slots)
    {g : JFrame} (hg : g.method = m) (hsize : g.locals.size = c.maxLocals) {rest : List Value} (hlen : ∀ sig, parseMethodDescriptor y.desc = some sig → argsL.length = sig.parameters.length) (hstack : g.stack = argsL.reverse ++ rest) (hW : 2 * g.monitorRoom + (rest.map fun v => v.category).sum ≤ W)
    (hd : decode c.code g.pc = .ok (.invokestatic index, 3))
    (k : ∀ (T' : State) (v : Option Value) (L : List Loc), Stand p l e R s m args below meth c T' (locs ++ L) (cells + rm.cells) (slots + rm.slots) → Q' v T'.heap L → Go p e below s kc ks Q (T'.setTop { g with pc := g.pc + 3, stack := v.toList ++ rest })) : Go p e below s kc ks Q (T.setTop g) := by
  obtain ⟨v, _, ⟨T', L', k', n'⟩, -, X', ⟨Lc, hQ, l1, l2, l3⟩, st⟩ := Jvm.LawKit.callS X hx hown (mvT hZ w1) (mvT hZ w2) (mvT hZ w3) (mvT hZ w4) hy (backOf (W := W) (K []) hZ w4 w3 hf hlo) hg hsize hlen hstack hW hd (fun _ _ => ⟨rfl, eT, hc, hs⟩)
  dsimp only [Pt.U, Pt.locs, Pt.cells, Pt.slots] at X' l1 l2 l3 st hQ
  subst l1 l2 l3
  exact Go.of st (k T' v Lc X' hQ)
theorem Go.special (X : Stand p l e R s m args below meth c T locs cells slots) (hx : p.tables.exec = Jvm.exec) (hZ : Z.Warmed39 s.vm) {own : String} {index : Nat} {y : MethodName} {bytes : ByteArray} {maxL : Nat} {rm : Room} {Q' : Option Value → Heap → List Loc → Prop} {a : Addr} {argsL : List Value} (hy1 : y.name = "<init>")
    (hown : s.vm.findClass own = some m.cls) (w1 : (Cond.methodLink own index y).before a0 Z = true) (w2 : (Cond.instanceMethod y).before a0 Z = true) (w3 : (Cond.initialized y.cls).before a0 Z = true) (w4 : (Cond.code y bytes maxL none).before a0 Z = true)
    (hy : y.cls ≠ "java/lang/invoke/MethodHandle" ∧ y.cls ≠ "java/lang/invoke/VarHandle") (W : Nat) (eT : T.heap = h) (K : Con l Z y bytes maxL none rm (Value.ref a :: argsL).toArray h Q') (hf : rm.frames + 1 ≤ R.frames) (hlo : W + (maxL + 11) + rm.locals ≤ R.locals) (hc : cells + rm.cells ≤ R.cells) (hs : slots + rm.slots ≤ R.slots)
    {g : JFrame} (hg : g.method = m) (hsize : g.locals.size = c.maxLocals) {rest : List Value} (hlen : ∀ sig, parseMethodDescriptor y.desc = some sig → argsL.length = sig.parameters.length) (hstack : g.stack = argsL.reverse ++ .ref a :: rest) (hW : 2 * g.monitorRoom + (rest.map fun v => v.category).sum ≤ W)
    (hd : decode c.code g.pc = .ok (.invokespecial index, 3))
    (k : ∀ (T' : State) (v : Option Value) (L : List Loc), Stand p l e R s m args below meth c T' (locs ++ L) (cells + rm.cells) (slots + rm.slots) → Q' v T'.heap L → Go p e below s kc ks Q (T'.setTop { g with pc := g.pc + 3, stack := v.toList ++ rest })) : Go p e below s kc ks Q (T.setTop g) := by
  obtain ⟨v, _, ⟨T', L', k', n'⟩, -, X', ⟨Lc, hQ, l1, l2, l3⟩, st⟩ := X.specialBack hx hy1 hown (mvT hZ w1) (mvT hZ w2) (mvT hZ w4) hy (backOf (W := W) (K []) hZ w4 w3 hf hlo) hg hsize (Steps.refl _) hlen hstack hW hd (fun _ _ => ⟨rfl, eT, hc, hs⟩)
  dsimp only [Pt.U, Pt.locs, Pt.cells, Pt.slots] at X' l1 l2 l3 st hQ
  subst l1 l2 l3
  exact Go.of (fun _ q => st.trans q) (k T' v Lc X' hQ)
theorem Go.virtual (X : Stand p l e R s m args below meth c T locs cells slots) (hx : p.tables.exec = Jvm.exec) (hZ : Z.Warmed39 s.vm) {own C : String} {index : Nat} {y z : MethodName} {bytes : ByteArray} {maxL : Nat} {ret : Option FieldType} {rm : Room} {Q' : Option Value → Heap → List Loc → Prop} {a : Addr} {argsL : List Value}
    (hown : s.vm.findClass own = some m.cls) (w1 : (Cond.methodLink own index y).before a0 Z = true) (w2 : (Cond.declares y).before a0 Z = true) (hnf : NotFace s y) (w5 : (Cond.selects C y z).before a0 Z = true) (w6 : (Cond.instanceMethod z).before a0 Z = true) (w3 : (Cond.initialized z.cls).before a0 Z = true) (w4 : (Cond.code z bytes maxL ret).before a0 Z = true)
    (hy : y.cls ≠ "java/lang/invoke/MethodHandle" ∧ y.cls ≠ "java/lang/invoke/VarHandle") (W : Nat) (eT : T.heap = h) (E : Exa Z h a C) (K : Con l Z z bytes maxL ret rm (Value.ref a :: argsL).toArray h Q') (hf : rm.frames + 1 ≤ R.frames) (hlo : W + (maxL + 11) + rm.locals ≤ R.locals) (hc : cells + rm.cells ≤ R.cells) (hs : slots + rm.slots ≤ R.slots)
    {g : JFrame} (hg : g.method = m) (hsize : g.locals.size = c.maxLocals) {rest : List Value} (hlen : ∀ sig, parseMethodDescriptor y.desc = some sig → argsL.length = sig.parameters.length) (hstack : g.stack = argsL.reverse ++ .ref a :: rest) (hW : 2 * g.monitorRoom + (rest.map fun v => v.category).sum ≤ W)
    (hd : decode c.code g.pc = .ok (.invokevirtual index, 3))
    (k : ∀ (T' : State) (v : Option Value) (L : List Loc), Stand p l e R s m args below meth c T' (locs ++ L) (cells + rm.cells) (slots + rm.slots) → Q' v T'.heap L → Go p e below s kc ks Q (T'.setTop { g with pc := g.pc + 3, stack := v.toList ++ rest })) : Go p e below s kc ks Q (T.setTop g) := by
  obtain ⟨cq, kq, qa, -, qc⟩ := isOf hZ eT E
  obtain ⟨v, _, ⟨T', L', k', n'⟩, -, X', ⟨Lc, hQ, l1, l2, l3⟩, st⟩ := X.virtualBack hx hown (mvT hZ w1) (mvT hZ w2) hnf (mvT hZ w5) (mvT hZ w6) hy (backOf (W := W) (K []) hZ w4 w3 hf hlo) qa qc hg hsize (Steps.refl _) hlen hstack hW hd (fun _ _ => ⟨rfl, eT, hc, hs⟩)
  dsimp only [Pt.U, Pt.locs, Pt.cells, Pt.slots] at X' l1 l2 l3 st hQ
  subst l1 l2 l3
  exact Go.of (fun _ q => st.trans q) (k T' v Lc X' hQ)
theorem Go.virtualUp (X : Stand p l e R s m args below meth c T locs cells slots) (hx : p.tables.exec = Jvm.exec) (hZ : Z.Warmed39 s.vm) {own C owner : String} {index : Nat} {y z : MethodName} {bytes : ByteArray} {maxL : Nat} {ret : Option FieldType} {rm : Room} {Q' : Option Value → Heap → List Loc → Prop} {a : Addr} {argsL : List Value}
    (hown : s.vm.findClass own = some m.cls) (w1 : (Cond.methodLink own index y).before a0 Z = true) (w2 : (Cond.sameMethod y.cls owner y.name y.desc).before a0 Z = true) (w7 : (Cond.declares ⟨owner, y.name, y.desc⟩).before a0 Z = true) (w5 : (Cond.selects C y z).before a0 Z = true) (w6 : (Cond.instanceMethod z).before a0 Z = true) (w3 : (Cond.initialized z.cls).before a0 Z = true) (w4 : (Cond.code z bytes maxL ret).before a0 Z = true)
    (hy : owner ≠ "java/lang/invoke/MethodHandle" ∧ owner ≠ "java/lang/invoke/VarHandle") (W : Nat) (eT : T.heap = h) (E : Exa Z h a C) (K : Con l Z z bytes maxL ret rm (Value.ref a :: argsL).toArray h Q') (hf : rm.frames + 1 ≤ R.frames) (hlo : W + (maxL + 11) + rm.locals ≤ R.locals) (hc : cells + rm.cells ≤ R.cells) (hs : slots + rm.slots ≤ R.slots)
    {g : JFrame} (hg : g.method = m) (hsize : g.locals.size = c.maxLocals) {rest : List Value} (hlen : ∀ sig, parseMethodDescriptor y.desc = some sig → argsL.length = sig.parameters.length) (hstack : g.stack = argsL.reverse ++ .ref a :: rest) (hW : 2 * g.monitorRoom + (rest.map fun v => v.category).sum ≤ W)
    (hd : decode c.code g.pc = .ok (.invokevirtual index, 3))
    (k : ∀ (T' : State) (v : Option Value) (L : List Loc), Stand p l e R s m args below meth c T' (locs ++ L) (cells + rm.cells) (slots + rm.slots) → Q' v T'.heap L → Go p e below s kc ks Q (T'.setTop { g with pc := g.pc + 3, stack := v.toList ++ rest })) : Go p e below s kc ks Q (T.setTop g) := by
  obtain ⟨cq, kq, qa, -, qc⟩ := isOf hZ eT E
  obtain ⟨v, _, ⟨T', L', k', n'⟩, -, X', ⟨Lc, hQ, l1, l2, l3⟩, st⟩ := X.virtualBackUp hx hown (mvT hZ w1) (mvT hZ w2) (mvT hZ w7) hy (mvT hZ w5) (mvT hZ w6) (backOf (W := W) (K []) hZ w4 w3 hf hlo) qa qc hg hsize (Steps.refl _) hlen hstack hW hd (fun _ _ => ⟨rfl, eT, hc, hs⟩)
  dsimp only [Pt.U, Pt.locs, Pt.cells, Pt.slots] at X' l1 l2 l3 st hQ
  subst l1 l2 l3
  exact Go.of (fun _ q => st.trans q) (k T' v Lc X' hQ)
/-- a cast of what may be null -/
theorem castV (X : Stand p l e R s m args below meth c T locs cells slots) (hx : p.tables.exec = Jvm.exec) (hZ : Z.Warmed39 s.vm) {own K : String} {index : Nat} (hown : s.vm.findClass own = some m.cls) (w : (Cond.classLink own index K).before a0 Z = true) (eT : T.heap = h) {v : Value} (F : v = .null ∨ ∃ a, v = .ref a ∧ Ins Z h a K true)
    {g : JFrame} (hg : g.method = m) {rest : List Value} (hs : g.stack = v :: rest) (hd : decode c.code g.pc = .ok (.checkcast index, 3)) : ∃ T', Stand p l e R s m args below meth c T' locs cells slots ∧ T'.heap = h ∧ ∀ target, Steps p.tables e below (T'.setTop { g with pc := g.pc + 3 }) target → Steps p.tables e below (T.setTop g) target := by
  rcases F with rfl | ⟨a, rfl, I⟩
  · exact ⟨T, X, eT, fun target q => X.checkcastNull hx hg hs hd target q⟩
  · exact castY X hx hZ hown w eT I hg hs hd
end Kit
end Jvm.OwnKit
namespace Jvm.OwnKit
open Sem ClassFile Op Lib Jvm.Stand Jvm.Free Jvm.LawKit Jvm.RoadKit
section Arrays
variable {p : Program} {l : Launch} {e : Env} {R : Room} {s : State} {m : MethodId} {args : Array Value} {below : List Frame} {meth : Method} {c : Code} {T : State} {locs : List Loc} {cells slots : Nat} {Z : State} {a0 : Array Value} {h h' : Heap} {a b : Addr} {k : ClassId} {ty : FieldType} {n i : Nat} {f : Nat → Value} {sl : Nat} {v w : Value} {ws : List Addr} {j : Int32}
/-- the array at a: its class, its kind, its length, what it holds -/
def AF (Z : State) (h : Heap) (a : Addr) (k : ClassId) (ty : FieldType) (n : Nat) (f : Nat → Value) : Prop :=
  ∃ c : Cell, Arr Z h a c ty ∧ c.cls = k ∧ c.slots.size = n ∧ n < 2 ^ 31 ∧ ∀ i, i < n → c.slots[i]? = some (f i)
def updV (f : Nat → Value) (i : Nat) (v : Value) : Nat → Value := fun k => if k = i then v else f k
def upI (f : Nat → Int32) (i : Nat) (v : Int32) : Nat → Int32 := fun k => if k = i then v else f k
/-- the index j is the place i of an array of n -/
def Ix (j : Int32) (i n : Nat) : Prop := j.toNatClampNeg = i ∧ ¬ j < 0 ∧ i < n
theorem Ix.not_out {c : Cell} (q : Ix j i n) (S : c.slots.size = n) : ¬ (j < 0 ∨ c.slots.size ≤ j.toNatClampNeg) := by
  obtain ⟨q1, q2, q3⟩ := q
  rintro (r | r)
  · exact q2 r
  · rw [q1, S] at r; exact absurd q3 (Nat.not_lt.mpr r)
theorem AF.new {z : Int32} {d : Value} (A : Arr Z h a (newA k ty z) ty) (q : ¬ z < 0) (e : z.toNatClampNeg = n) (hd : defaultValue ty = d) : AF Z h a k ty n (fun _ => d) :=
  ⟨_, A, rfl, by rw [sz_new, e], by rw [← e]; exact (back32 q).2, fun i hi => by simp [newA, e, hi, hd]⟩
theorem AF.lt (F : AF Z h a k ty n f) : a < h.size := by obtain ⟨c, A, -⟩ := F; exact A.lt
theorem AF.ext (F : AF Z h a k ty n f) (E : Ext h h') : AF Z h' a k ty n f := by obtain ⟨c, A, r⟩ := F; exact ⟨c, A.ext E, r⟩
theorem AF.other (F : AF Z h b k ty n f) (W : Wr h h' a sl v) (q : b ≠ a) : AF Z h' b k ty n f := by obtain ⟨c, A, r⟩ := F; exact ⟨c, A.other W q, r⟩
theorem AF.keep (F : AF Z h a k ty n f) (K : Keep h h' ws) (q : a ∉ ws) : AF Z h' a k ty n f := by obtain ⟨c, A, r⟩ := F; exact ⟨c, ⟨K.2.1 a c A.1 q, A.2⟩, r⟩
theorem AF.cast {g : Nat → Value} (F : AF Z h a k ty n f) (q : ∀ i, i < n → f i = g i) : AF Z h a k ty n g := by obtain ⟨c, A, r1, r2, r3, H⟩ := F; exact ⟨c, A, r1, r2, r3, fun i hi => by rw [H i hi, q i hi]⟩
theorem AF.set (F : AF Z h a k ty n f) (W : Wr h h' a j.toNatClampNeg v) (q : Ix j i n) : AF Z h' a k ty n (updV f i v) := by
  obtain ⟨c, A, r1, r2, r3, H⟩ := F
  refine ⟨_, Arr.same W A, r1, by rw [sz_set]; exact r2, r3, fun x hx => ?_⟩
  rw [q.1]
  by_cases e : x = i
  · subst e
    simp [Cell.setSlot, updV, r2, hx]
  · have : (c.setSlot i v).slots[x]? = c.slots[x]? := Array.getElem?_setIfInBounds_ne (Ne.symm e)
    rw [this, H x hx]; simp [updV, e]
theorem AF.toI {g : Nat → Int32} {x : Int32} (F : AF Z h a k ty n (updV (fun i => .int (g i)) i (.int x))) : AF Z h a k ty n (fun j => .int ((upI g i x) j)) := F.cast fun j _ => by simp only [updV, upI]; split <;> rfl
theorem AF.length (F : AF Z h a k ty n f) (X : Stand p l e R s m args below meth c T locs cells slots) (hx : p.tables.exec = Jvm.exec) (hZ : Z.Warmed39 s.vm) (eT : T.heap = h) {z : Int32} (hz : n.toInt32 = z) {g : JFrame} (hg : g.method = m) {rest : List Value} (hs : g.stack = .ref a :: rest) (hd : decode c.code g.pc = .ok (.arraylength, 1)) {target : State}
    (q : Steps p.tables e below (T.setTop { g with pc := g.pc + 1, stack := .int z :: rest }) target) : Steps p.tables e below (T.setTop g) target := by
  obtain ⟨cl, A, r1, r2, r3, H⟩ := F
  refine X.arraylength hx (by rw [eT]; exact A.1) (State.isArrayOf_alike hZ.alike A.2.1) hg hs hd _ ?_
  rw [r2, hz]
  exact q
theorem AF.iaload (F : AF Z h a k .int n f) (X : Stand p l e R s m args below meth c T locs cells slots) (hx : p.tables.exec = Jvm.exec) (hZ : Z.Warmed39 s.vm) (eT : T.heap = h) (hi : Ix j i n) (hv : f i = v) {g : JFrame} (hg : g.method = m) {rest : List Value} (hs : g.stack = .int j :: .ref a :: rest) (hd : decode c.code g.pc = .ok (.iaload, 1)) {target : State}
    (q : Steps p.tables e below (T.setTop { g with pc := g.pc + 1, stack := v :: rest }) target) : Steps p.tables e below (T.setTop g) target := by
  obtain ⟨cl, A, r1, r2, r3, H⟩ := F
  exact X.iaload hx (by rw [eT]; exact A.1) (State.isArrayOf_alike hZ.alike A.2.1) A.2.2 (hi.not_out r2) (by rw [hi.1, H i hi.2.2, hv]) hg hs hd _ q
theorem AF.caload (F : AF Z h a k .char n f) (X : Stand p l e R s m args below meth c T locs cells slots) (hx : p.tables.exec = Jvm.exec) (hZ : Z.Warmed39 s.vm) (eT : T.heap = h) (hi : Ix j i n) (hv : f i = v) {g : JFrame} (hg : g.method = m) {rest : List Value} (hs : g.stack = .int j :: .ref a :: rest) (hd : decode c.code g.pc = .ok (.caload, 1)) {target : State}
    (q : Steps p.tables e below (T.setTop { g with pc := g.pc + 1, stack := v :: rest }) target) : Steps p.tables e below (T.setTop g) target := by
  obtain ⟨cl, A, r1, r2, r3, H⟩ := F
  exact X.caload hx (by rw [eT]; exact A.1) (State.isArrayOf_alike hZ.alike A.2.1) A.2.2 (hi.not_out r2) (by rw [hi.1, H i hi.2.2, hv]) hg hs hd _ q
theorem AF.baload (F : AF Z h a k .byte n f) (X : Stand p l e R s m args below meth c T locs cells slots) (hx : p.tables.exec = Jvm.exec) (hZ : Z.Warmed39 s.vm) (eT : T.heap = h) (hi : Ix j i n) (hv : f i = v) {g : JFrame} (hg : g.method = m) {rest : List Value} (hs : g.stack = .int j :: .ref a :: rest) (hd : decode c.code g.pc = .ok (.baload, 1)) {target : State}
    (q : Steps p.tables e below (T.setTop { g with pc := g.pc + 1, stack := v :: rest }) target) : Steps p.tables e below (T.setTop g) target := by
  obtain ⟨cl, A, r1, r2, r3, H⟩ := F
  exact X.baloadBytes hx (by rw [eT]; exact A.1) (State.isArrayOf_alike hZ.alike A.2.1) A.2.2 (hi.not_out r2) (by rw [hi.1, H i hi.2.2, hv]) hg hs hd _ q
theorem AF.aaload (F : AF Z h a k ty n f) (hty : ty.isReference = true) (X : Stand p l e R s m args below meth c T locs cells slots) (hx : p.tables.exec = Jvm.exec) (hZ : Z.Warmed39 s.vm) (eT : T.heap = h) (hi : Ix j i n) (hv : f i = v) {g : JFrame} (hg : g.method = m) {rest : List Value} (hs : g.stack = .int j :: .ref a :: rest) (hd : decode c.code g.pc = .ok (.aaload, 1)) {target : State}
    (q : Steps p.tables e below (T.setTop { g with pc := g.pc + 1, stack := v :: rest }) target) : Steps p.tables e below (T.setTop g) target := by
  obtain ⟨cl, A, r1, r2, r3, H⟩ := F
  exact X.aaload hx (by rw [eT]; exact A.1) (State.isArrayOf_alike hZ.alike A.2.1) hty A.2.2 (hi.not_out r2) (by rw [hi.1, H i hi.2.2, hv]) hg hs hd _ q
theorem AF.iastore (F : AF Z h a k .int n f) (X : Stand p l e R s m args below meth c T locs cells slots) (hx : p.tables.exec = Jvm.exec) (hZ : Z.Warmed39 s.vm) (eT : T.heap = h) (hi : Ix j i n) {x : Int32} {g : JFrame} (hg : g.method = m) {rest : List Value} (hs : g.stack = .int x :: .int j :: .ref a :: rest) (hd : decode c.code g.pc = .ok (.iastore, 1)) :
    ∃ T' h', Stand p l e R s m args below meth c T' (locs ++ [⟨a, j.toNatClampNeg⟩]) cells slots ∧ T'.heap = h' ∧ Wr h h' a j.toNatClampNeg (.int x) ∧ AF Z h' a k .int n (updV f i (.int x)) ∧ ∀ target, Steps p.tables e below (T'.setTop { g with pc := g.pc + 1, stack := rest }) target → Steps p.tables e below (T.setTop g) target := by
  have F0 := F
  obtain ⟨cl, A, r1, r2, r3, H⟩ := F
  obtain ⟨T', h', X', e', W', st'⟩ := stI X hx hZ eT A (hi.not_out r2) hg hs hd
  exact ⟨T', h', X', e', W', F0.set W' hi, st'⟩
theorem AF.castore (F : AF Z h a k .char n f) (X : Stand p l e R s m args below meth c T locs cells slots) (hx : p.tables.exec = Jvm.exec) (hZ : Z.Warmed39 s.vm) (eT : T.heap = h) (hi : Ix j i n) {x : Int32} {g : JFrame} (hg : g.method = m) {rest : List Value} (hs : g.stack = .int x :: .int j :: .ref a :: rest) (hd : decode c.code g.pc = .ok (.castore, 1)) :
    ∃ T' h', Stand p l e R s m args below meth c T' (locs ++ [⟨a, j.toNatClampNeg⟩]) cells slots ∧ T'.heap = h' ∧ Wr h h' a j.toNatClampNeg (.int (nar .char x)) ∧ AF Z h' a k .char n (updV f i (.int (nar .char x))) ∧ ∀ target, Steps p.tables e below (T'.setTop { g with pc := g.pc + 1, stack := rest }) target → Steps p.tables e below (T.setTop g) target := by
  have F0 := F
  obtain ⟨cl, A, r1, r2, r3, H⟩ := F
  obtain ⟨T', h', X', e', W', st'⟩ := stC X hx hZ eT A (hi.not_out r2) hg hs hd
  exact ⟨T', h', X', e', W', F0.set W' hi, st'⟩
theorem AF.bastore (F : AF Z h a k .byte n f) (X : Stand p l e R s m args below meth c T locs cells slots) (hx : p.tables.exec = Jvm.exec) (hZ : Z.Warmed39 s.vm) (eT : T.heap = h) (hi : Ix j i n) {x : Int32} {g : JFrame} (hg : g.method = m) {rest : List Value} (hs : g.stack = .int x :: .int j :: .ref a :: rest) (hd : decode c.code g.pc = .ok (.bastore, 1)) :
    ∃ T' h', Stand p l e R s m args below meth c T' (locs ++ [⟨a, j.toNatClampNeg⟩]) cells slots ∧ T'.heap = h' ∧ Wr h h' a j.toNatClampNeg (.int x.toInt8.toInt32) ∧ AF Z h' a k .byte n (updV f i (.int x.toInt8.toInt32)) ∧ ∀ target, Steps p.tables e below (T'.setTop { g with pc := g.pc + 1, stack := rest }) target → Steps p.tables e below (T.setTop g) target := by
  have F0 := F
  obtain ⟨cl, A, r1, r2, r3, H⟩ := F
  obtain ⟨T', h', X', e', W', st'⟩ := stB X hx hZ eT A (hi.not_out r2) hg hs hd
  exact ⟨T', h', X', e', W', F0.set W' hi, st'⟩
theorem AF.aastore (F : AF Z h a k ty n f) (hty : ty.isReference = true) (X : Stand p l e R s m args below meth c T locs cells slots) (hx : p.tables.exec = Jvm.exec) (hZ : Z.Warmed39 s.vm) (eT : T.heap = h) (hi : Ix j i n) (hsto : Sto Z h a v) {g : JFrame} (hg : g.method = m) {rest : List Value} (hs : g.stack = v :: .int j :: .ref a :: rest) (hd : decode c.code g.pc = .ok (.aastore, 1)) :
    ∃ T' h', Stand p l e R s m args below meth c T' (locs ++ [⟨a, j.toNatClampNeg⟩]) cells slots ∧ T'.heap = h' ∧ Wr h h' a j.toNatClampNeg v ∧ AF Z h' a k ty n (updV f i v) ∧ ∀ target, Steps p.tables e below (T'.setTop { g with pc := g.pc + 1, stack := rest }) target → Steps p.tables e below (T.setTop g) target := by
  have F0 := F
  obtain ⟨cl, A, r1, r2, r3, H⟩ := F
  obtain ⟨T', h', X', e', W', st'⟩ := stR X hx hZ eT A (hi.not_out r2) hty hsto hg hs hd
  exact ⟨T', h', X', e', W', F0.set W' hi, st'⟩
theorem AF.sto {C : String} {y : Addr} (F : AF Z h a k ty n f) (O : Ovr Z k C) (I : Ins Z h y C true) : Sto Z h a (.ref y) := by
  obtain ⟨cl, A, r1, -⟩ := F
  exact Sto.ofV A r1 O I
end Arrays
end Jvm.OwnKit
namespace Jvm.Pilot.@@N@@
open Jvm Jvm.ClassFile Sem Op Lib Jvm.Free Jvm.Stand Jvm.LawKit Jvm.RoadKit Jvm.OwnKit Bundle Jvm.Pilot.@@N@@.Jvm.D
theorem eqi_no {args : Array Value} {first s : State} {o : Option Outcome} {idx : List Nat} {t : Term} {n x : Int32} (h : (Jvm.Cond.not (Jvm.Cond.eq t (.int n))).value args first o s idx = some true) (e : t.eval args first o idx s = some (.int x)) : ¬ x = n := by
  have q := not_v h
  intro r
  subst r
  simp [Cond.value, e, Term.eval] at q
def own_by (c : Int32) : Int32 := c.toInt8.toInt32
theorem own_by2 (c : Int32) : c.toInt8.toInt32.toInt8.toInt32 = own_by c := by
  unfold own_by
  have : c.toInt8.toInt32.toInt8 = c.toInt8 := Int8.toInt8_toInt32 _
  rw [this]
theorem own_chr (y : Int32) : ¬ (255 : Int32) < (y &&& (255 : Int32)).toUInt32.toUInt16.toUInt32.toInt32 := by
  rw [i2c_mask, Int32.lt_iff_toInt_lt]
  have := (c_and y 255 (by decide)).2
  have e : (255 : Int32).toInt = 255 := by decide
  omega
theorem own_chr2 (y : Int32) : ¬ (255 : Int32) < (y &&& (255 : Int32)).toUInt32.toUInt16.toUInt32.toInt32.toUInt32.toUInt16.toUInt32.toInt32 := by
  rw [i2c_mask]; exact own_chr y
theorem own_i2c2 (y : Int32) : (y &&& (255 : Int32)).toUInt32.toUInt16.toUInt32.toInt32.toUInt32.toUInt16.toUInt32.toInt32 = (y &&& (255 : Int32)) := by
  rw [i2c_mask, i2c_mask]
theorem d5_0 : decode jdk_52_method_21_code 0 = .ok (.iconst 0, 1) := by decide +kernel
theorem d5_1 : decode jdk_52_method_21_code 1 = .ok (.istore 5, 2) := by decide +kernel
theorem d5_3 : decode jdk_52_method_21_code 3 = .ok (.iload 5, 2) := by decide +kernel
theorem d5_5 : decode jdk_52_method_21_code 5 = .ok (.iload 4, 2) := by decide +kernel
theorem d5_7 : decode jdk_52_method_21_code 7 = .ok (.if_icmp .ge 37, 3) := by decide +kernel
theorem d5_10 : decode jdk_52_method_21_code 10 = .ok (.aload_n 0, 1) := by decide +kernel
theorem d5_11 : decode jdk_52_method_21_code 11 = .ok (.iload_n 1, 1) := by decide +kernel
theorem d5_12 : decode jdk_52_method_21_code 12 = .ok (.caload, 1) := by decide +kernel
theorem d5_13 : decode jdk_52_method_21_code 13 = .ok (.istore 6, 2) := by decide +kernel
theorem d5_15 : decode jdk_52_method_21_code 15 = .ok (.iload 6, 2) := by decide +kernel
theorem d5_17 : decode jdk_52_method_21_code 17 = .ok (.sipush 255, 3) := by decide +kernel
theorem d5_20 : decode jdk_52_method_21_code 20 = .ok (.if_icmp .le 6, 3) := by decide +kernel
theorem d5_26 : decode jdk_52_method_21_code 26 = .ok (.aload_n 2, 1) := by decide +kernel
theorem d5_27 : decode jdk_52_method_21_code 27 = .ok (.iload_n 3, 1) := by decide +kernel
theorem d5_28 : decode jdk_52_method_21_code 28 = .ok (.iload 6, 2) := by decide +kernel
theorem d5_30 : decode jdk_52_method_21_code 30 = .ok (.i2b, 1) := by decide +kernel
theorem d5_31 : decode jdk_52_method_21_code 31 = .ok (.bastore, 1) := by decide +kernel
theorem d5_32 : decode jdk_52_method_21_code 32 = .ok (.iinc 1 1, 3) := by decide +kernel
theorem d5_35 : decode jdk_52_method_21_code 35 = .ok (.iinc 3 1, 3) := by decide +kernel
theorem d5_38 : decode jdk_52_method_21_code 38 = .ok (.iinc 5 1, 3) := by decide +kernel
theorem d5_41 : decode jdk_52_method_21_code 41 = .ok (.goto (-38), 3) := by decide +kernel
theorem d5_44 : decode jdk_52_method_21_code 44 = .ok (.iload 4, 2) := by decide +kernel
theorem d5_46 : decode jdk_52_method_21_code 46 = .ok (.ireturn, 1) := by decide +kernel
theorem pn0 : plainName "java/lang/StringUTF16" = true := by first | (simp [plainName, overriddenIn]; done) | decide +kernel
theorem ef_5_s1 (m : MethodId) (b : Addr) (d : Addr) : entryFrame m #[(.ref b), (.int (0 : Int32)), (.ref d), (.int (0 : Int32)), (.int (1 : Int32))] 7 = mkF m 0 #[.val (.ref b), .val (.int (0 : Int32)), .val (.ref d), .val (.int (0 : Int32)), .val (.int (1 : Int32)), .unset, .unset] [] := by first | (simp [entryFrame, mkF, argsToLocals, Value.category]; done) | rfl
def Q5_s1 (Z : State) (b : Addr) (d : Addr) (kb : ClassId) (gb : Nat → Int32) (kd : ClassId) (gd : Nat → Int32) (h0 : Heap) (n0 : Nat) (v : Option Value) (h : Heap) (L : List Loc) : Prop := v = some (.int (1 : Int32)) ∧ Fr n0 L ∧ Keep h0 h [d] ∧ AF Z h d kd .byte 1 (fun i => .int ((fun i => own_by (gb i)) i))
set_option maxRecDepth 65536 in
set_option maxHeartbeats 40000000 in
theorem rm5_s1 (l : Launch) (Z : State) (a0 : Array Value) (hw : ∀ d ∈ tables_1, d.before a0 Z = true) (b : Addr) (d : Addr) (kb : ClassId) (gb : Nat → Int32) (kd : ClassId) (gd : Nat → Int32) (h0 : Heap) (n0 : Nat) (Zs : n0 ≤ h0.size) (A_b : AF Z h0 b kb .char 1 (fun i => .int (gb i))) (A_d : AF Z h0 d kd .byte 1 (fun i => .int (gd i))) (ne_b_d : b ≠ d) (g_d : n0 ≤ d) (hg : ∀ i, i < 1 → ¬ (255 : Int32) < gb i) :
    Con l Z (⟨"java/lang/StringUTF16", "compress", "([CI[BII)I"⟩ : MethodName) jdk_52_method_21_code 7 (some .int) ({ frames := 0, cells := 0, slots := 0, locals := 0 } : Room) #[(.ref b), (.int (0 : Int32)), (.ref d), (.int (0 : Int32)), (.int (1 : Int32))] h0 (Q5_s1 Z b d kb gb kd gd h0 n0) := by
  refine Con.intro (plainFor_of_name pn0) (fun m => ef_5_s1 m b d) ?_
  intro p e s m below meth c s₁ hx hby hml0 hZ hown hnm hret hlk X0 e0
  have hml : c.maxLocals = 7 := hml0
  have N0 := Fr.nil n0
  have Kp : Keep h0 h0 [d] := Keep.refl h0 _
  show Go _ _ _ _ _ _ _ (s₁.setTop (mkF m 0 #[.val (.ref b), .val (.int (0 : Int32)), .val (.ref d), .val (.int (0 : Int32)), .val (.int (1 : Int32)), .unset, .unset] []))
  refine Go.of (fun _ q => XS.iconst X0.here hx rfl (hb hby d5_0) q) ?_
  show Go _ _ _ _ _ _ _ (s₁.setTop (mkF m 1 #[.val (.ref b), .val (.int (0 : Int32)), .val (.ref d), .val (.int (0 : Int32)), .val (.int (1 : Int32)), .unset, .unset] [(.int (0 : Int32))]))
  refine Go.of (fun _ q => XS.istore X0.here hx rfl (hb hby d5_1) rfl (l' := #[.val (.ref b), .val (.int (0 : Int32)), .val (.ref d), .val (.int (0 : Int32)), .val (.int (1 : Int32)), .val (.int (0 : Int32)), .unset]) rfl q) ?_
  show Go _ _ _ _ _ _ _ (s₁.setTop (mkF m 3 #[.val (.ref b), .val (.int (0 : Int32)), .val (.ref d), .val (.int (0 : Int32)), .val (.int (1 : Int32)), .val (.int (0 : Int32)), .unset] []))
  refine Go.of (fun _ q => XS.iload X0.here hx rfl (hb hby d5_3) rfl q) ?_
  show Go _ _ _ _ _ _ _ (s₁.setTop (mkF m 5 #[.val (.ref b), .val (.int (0 : Int32)), .val (.ref d), .val (.int (0 : Int32)), .val (.int (1 : Int32)), .val (.int (0 : Int32)), .unset] [(.int (0 : Int32))]))
  refine Go.of (fun _ q => XS.iload X0.here hx rfl (hb hby d5_5) rfl q) ?_
  show Go _ _ _ _ _ _ _ (s₁.setTop (mkF m 7 #[.val (.ref b), .val (.int (0 : Int32)), .val (.ref d), .val (.int (0 : Int32)), .val (.int (1 : Int32)), .val (.int (0 : Int32)), .unset] [(.int (1 : Int32)), (.int (0 : Int32))]))
  refine Go.of (fun _ q => XS.icmpNo X0.here hx rfl (hb hby d5_7) rfl (tlt (by decide)).2.1 q) ?_
  show Go _ _ _ _ _ _ _ (s₁.setTop (mkF m 10 #[.val (.ref b), .val (.int (0 : Int32)), .val (.ref d), .val (.int (0 : Int32)), .val (.int (1 : Int32)), .val (.int (0 : Int32)), .unset] []))
  refine Go.of (fun _ q => XS.aloadN X0.here hx rfl (hb hby d5_10) rfl rfl q) ?_
  show Go _ _ _ _ _ _ _ (s₁.setTop (mkF m 11 #[.val (.ref b), .val (.int (0 : Int32)), .val (.ref d), .val (.int (0 : Int32)), .val (.int (1 : Int32)), .val (.int (0 : Int32)), .unset] [(.ref b)]))
  refine Go.of (fun _ q => XS.iloadN X0.here hx rfl (hb hby d5_11) rfl q) ?_
  show Go _ _ _ _ _ _ _ (s₁.setTop (mkF m 12 #[.val (.ref b), .val (.int (0 : Int32)), .val (.ref d), .val (.int (0 : Int32)), .val (.int (1 : Int32)), .val (.int (0 : Int32)), .unset] [(.int (0 : Int32)), (.ref b)]))
  refine Go.of (fun _ q => AF.caload A_b X0 hx hZ e0 ⟨rfl, by decide, by decide⟩ (v := (.int (gb 0))) rfl (g := (mkF m 12 #[.val (.ref b), .val (.int (0 : Int32)), .val (.ref d), .val (.int (0 : Int32)), .val (.int (1 : Int32)), .val (.int (0 : Int32)), .unset] [(.int (0 : Int32)), (.ref b)])) rfl rfl (hb hby d5_12) q) ?_
  show Go _ _ _ _ _ _ _ (s₁.setTop (mkF m 13 #[.val (.ref b), .val (.int (0 : Int32)), .val (.ref d), .val (.int (0 : Int32)), .val (.int (1 : Int32)), .val (.int (0 : Int32)), .unset] [(.int (gb 0))]))
  refine Go.of (fun _ q => XS.istore X0.here hx rfl (hb hby d5_13) rfl (l' := #[.val (.ref b), .val (.int (0 : Int32)), .val (.ref d), .val (.int (0 : Int32)), .val (.int (1 : Int32)), .val (.int (0 : Int32)), .val (.int (gb 0))]) rfl q) ?_
  show Go _ _ _ _ _ _ _ (s₁.setTop (mkF m 15 #[.val (.ref b), .val (.int (0 : Int32)), .val (.ref d), .val (.int (0 : Int32)), .val (.int (1 : Int32)), .val (.int (0 : Int32)), .val (.int (gb 0))] []))
  refine Go.of (fun _ q => XS.iload X0.here hx rfl (hb hby d5_15) rfl q) ?_
  show Go _ _ _ _ _ _ _ (s₁.setTop (mkF m 17 #[.val (.ref b), .val (.int (0 : Int32)), .val (.ref d), .val (.int (0 : Int32)), .val (.int (1 : Int32)), .val (.int (0 : Int32)), .val (.int (gb 0))] [(.int (gb 0))]))
  refine Go.of (fun _ q => XS.sipush X0.here hx rfl (hb hby d5_17) q) ?_
  show Go _ _ _ _ _ _ _ (s₁.setTop (mkF m 20 #[.val (.ref b), .val (.int (0 : Int32)), .val (.ref d), .val (.int (0 : Int32)), .val (.int (1 : Int32)), .val (.int (0 : Int32)), .val (.int (gb 0))] [(.int (255 : Int32)), (.int (gb 0))]))
  refine Go.of (fun _ q => XS.icmpYes X0.here hx rfl (pc0 := 20) (pc' := 26) rfl (hb hby d5_20) rfl (flt (hg 0 (by decide))).2.2.2 (by decide) (by decide) q) ?_
  show Go _ _ _ _ _ _ _ (s₁.setTop (mkF m 26 #[.val (.ref b), .val (.int (0 : Int32)), .val (.ref d), .val (.int (0 : Int32)), .val (.int (1 : Int32)), .val (.int (0 : Int32)), .val (.int (gb 0))] []))
  refine Go.of (fun _ q => XS.aloadN X0.here hx rfl (hb hby d5_26) rfl rfl q) ?_
  show Go _ _ _ _ _ _ _ (s₁.setTop (mkF m 27 #[.val (.ref b), .val (.int (0 : Int32)), .val (.ref d), .val (.int (0 : Int32)), .val (.int (1 : Int32)), .val (.int (0 : Int32)), .val (.int (gb 0))] [(.ref d)]))
  refine Go.of (fun _ q => XS.iloadN X0.here hx rfl (hb hby d5_27) rfl q) ?_
  show Go _ _ _ _ _ _ _ (s₁.setTop (mkF m 28 #[.val (.ref b), .val (.int (0 : Int32)), .val (.ref d), .val (.int (0 : Int32)), .val (.int (1 : Int32)), .val (.int (0 : Int32)), .val (.int (gb 0))] [(.int (0 : Int32)), (.ref d)]))
  refine Go.of (fun _ q => XS.iload X0.here hx rfl (hb hby d5_28) rfl q) ?_
  show Go _ _ _ _ _ _ _ (s₁.setTop (mkF m 30 #[.val (.ref b), .val (.int (0 : Int32)), .val (.ref d), .val (.int (0 : Int32)), .val (.int (1 : Int32)), .val (.int (0 : Int32)), .val (.int (gb 0))] [(.int (gb 0)), (.int (0 : Int32)), (.ref d)]))
  refine Go.of (fun _ q => XS.i2b X0.here hx rfl (hb hby d5_30) rfl q) ?_
  show Go _ _ _ _ _ _ _ (s₁.setTop (mkF m 31 #[.val (.ref b), .val (.int (0 : Int32)), .val (.ref d), .val (.int (0 : Int32)), .val (.int (1 : Int32)), .val (.int (0 : Int32)), .val (.int (gb 0))] [(.int ((gb 0).toInt8.toInt32)), (.int (0 : Int32)), (.ref d)]))
  obtain ⟨T1, h1, X1, e1, W1, A1', st1⟩ := AF.bastore A_d X0 hx hZ e0 (i := 0) ⟨rfl, by decide, by decide⟩ (g := (mkF m 31 #[.val (.ref b), .val (.int (0 : Int32)), .val (.ref d), .val (.int (0 : Int32)), .val (.int (1 : Int32)), .val (.int (0 : Int32)), .val (.int (gb 0))] [(.int ((gb 0).toInt8.toInt32)), (.int (0 : Int32)), (.ref d)])) rfl rfl (hb hby d5_31)
  refine Go.of st1 ?_
  have Zs := Nat.le_trans Zs (Nat.le_of_eq W1.size.symm)
  have Kp := Kp.wr W1 (Or.inl (List.mem_of_getElem? (i := 0) rfl))
  have A_b := A_b.other W1 ne_b_d
  have A_d : AF Z h1 d kd .byte 1 (fun i => .int ((upI gd 0 (((gb 0).toInt8.toInt32).toInt8.toInt32)) i)) := A1'.toI
  have N1 := Fr.snoc X1 N0 g_d
  show Go _ _ _ _ _ _ _ (T1.setTop (mkF m 32 #[.val (.ref b), .val (.int (0 : Int32)), .val (.ref d), .val (.int (0 : Int32)), .val (.int (1 : Int32)), .val (.int (0 : Int32)), .val (.int (gb 0))] []))
  refine Go.of (fun _ q => XS.iinc X1.here hx rfl (hb hby d5_32) rfl (l' := #[.val (.ref b), .val (.int (1 : Int32)), .val (.ref d), .val (.int (0 : Int32)), .val (.int (1 : Int32)), .val (.int (0 : Int32)), .val (.int (gb 0))]) rfl q) ?_
  show Go _ _ _ _ _ _ _ (T1.setTop (mkF m 35 #[.val (.ref b), .val (.int (1 : Int32)), .val (.ref d), .val (.int (0 : Int32)), .val (.int (1 : Int32)), .val (.int (0 : Int32)), .val (.int (gb 0))] []))
  refine Go.of (fun _ q => XS.iinc X1.here hx rfl (hb hby d5_35) rfl (l' := #[.val (.ref b), .val (.int (1 : Int32)), .val (.ref d), .val (.int (1 : Int32)), .val (.int (1 : Int32)), .val (.int (0 : Int32)), .val (.int (gb 0))]) rfl q) ?_
  show Go _ _ _ _ _ _ _ (T1.setTop (mkF m 38 #[.val (.ref b), .val (.int (1 : Int32)), .val (.ref d), .val (.int (1 : Int32)), .val (.int (1 : Int32)), .val (.int (0 : Int32)), .val (.int (gb 0))] []))
  refine Go.of (fun _ q => XS.iinc X1.here hx rfl (hb hby d5_38) rfl (l' := #[.val (.ref b), .val (.int (1 : Int32)), .val (.ref d), .val (.int (1 : Int32)), .val (.int (1 : Int32)), .val (.int (1 : Int32)), .val (.int (gb 0))]) rfl q) ?_
  show Go _ _ _ _ _ _ _ (T1.setTop (mkF m 41 #[.val (.ref b), .val (.int (1 : Int32)), .val (.ref d), .val (.int (1 : Int32)), .val (.int (1 : Int32)), .val (.int (1 : Int32)), .val (.int (gb 0))] []))
  refine Go.of (fun _ q => XS.goto X1.here hx rfl (pc0 := 41) (pc' := 3) rfl (hb hby d5_41) (by decide) (by decide) q) ?_
  show Go _ _ _ _ _ _ _ (T1.setTop (mkF m 3 #[.val (.ref b), .val (.int (1 : Int32)), .val (.ref d), .val (.int (1 : Int32)), .val (.int (1 : Int32)), .val (.int (1 : Int32)), .val (.int (gb 0))] []))
  refine Go.of (fun _ q => XS.iload X1.here hx rfl (hb hby d5_3) rfl q) ?_
  show Go _ _ _ _ _ _ _ (T1.setTop (mkF m 5 #[.val (.ref b), .val (.int (1 : Int32)), .val (.ref d), .val (.int (1 : Int32)), .val (.int (1 : Int32)), .val (.int (1 : Int32)), .val (.int (gb 0))] [(.int (1 : Int32))]))
  refine Go.of (fun _ q => XS.iload X1.here hx rfl (hb hby d5_5) rfl q) ?_
  show Go _ _ _ _ _ _ _ (T1.setTop (mkF m 7 #[.val (.ref b), .val (.int (1 : Int32)), .val (.ref d), .val (.int (1 : Int32)), .val (.int (1 : Int32)), .val (.int (1 : Int32)), .val (.int (gb 0))] [(.int (1 : Int32)), (.int (1 : Int32))]))
  refine Go.of (fun _ q => XS.icmpYes X1.here hx rfl (pc0 := 7) (pc' := 44) rfl (hb hby d5_7) rfl (flt (by decide)).2.1 (by decide) (by decide) q) ?_
  show Go _ _ _ _ _ _ _ (T1.setTop (mkF m 44 #[.val (.ref b), .val (.int (1 : Int32)), .val (.ref d), .val (.int (1 : Int32)), .val (.int (1 : Int32)), .val (.int (1 : Int32)), .val (.int (gb 0))] []))
  refine Go.of (fun _ q => XS.iload X1.here hx rfl (hb hby d5_44) rfl q) ?_
  show Go _ _ _ _ _ _ _ (T1.setTop (mkF m 46 #[.val (.ref b), .val (.int (1 : Int32)), .val (.ref d), .val (.int (1 : Int32)), .val (.int (1 : Int32)), .val (.int (1 : Int32)), .val (.int (gb 0))] [(.int (1 : Int32))]))
  refine Go.retI X1 hx hlk hret (hb hby d5_46) (by decide) (by decide) ?_
  rw [e1]
  exact ⟨rfl, N1, Kp, (AF.cast A_d (fun i hi => by rcases (show i = 0 by omega) with rfl <;> simp [upI, own_by]))⟩
theorem pd0 : parseMethodDescriptor "([CI[BII)I" = some ⟨[(.array .char), .int, (.array .byte), .int, .int], some .int⟩ := by decide +kernel
theorem d4_0 : decode jdk_52_method_16_code 0 = .ok (.iload_n 2, 1) := by decide +kernel
theorem d4_1 : decode jdk_52_method_16_code 1 = .ok (.newarray .byte, 2) := by decide +kernel
theorem d4_3 : decode jdk_52_method_16_code 3 = .ok (.astore_n 3, 1) := by decide +kernel
theorem d4_4 : decode jdk_52_method_16_code 4 = .ok (.aload_n 0, 1) := by decide +kernel
theorem d4_5 : decode jdk_52_method_16_code 5 = .ok (.iload_n 1, 1) := by decide +kernel
theorem d4_6 : decode jdk_52_method_16_code 6 = .ok (.aload_n 3, 1) := by decide +kernel
theorem d4_7 : decode jdk_52_method_16_code 7 = .ok (.iconst 0, 1) := by decide +kernel
theorem d4_8 : decode jdk_52_method_16_code 8 = .ok (.iload_n 2, 1) := by decide +kernel
theorem d4_9 : decode jdk_52_method_16_code 9 = .ok (.invokestatic 115, 3) := by decide +kernel
theorem d4_12 : decode jdk_52_method_16_code 12 = .ok (.istore 4, 2) := by decide +kernel
theorem d4_14 : decode jdk_52_method_16_code 14 = .ok (.iload 4, 2) := by decide +kernel
theorem d4_16 : decode jdk_52_method_16_code 16 = .ok (.iload_n 2, 1) := by decide +kernel
theorem d4_17 : decode jdk_52_method_16_code 17 = .ok (.if_icmp .eq 40, 3) := by decide +kernel
theorem d4_57 : decode jdk_52_method_16_code 57 = .ok (.aload_n 3, 1) := by decide +kernel
theorem d4_58 : decode jdk_52_method_16_code 58 = .ok (.areturn, 1) := by decide +kernel
theorem ef_4_s1 (m : MethodId) (b : Addr) : entryFrame m #[(.ref b), (.int (0 : Int32)), (.int (1 : Int32))] 6 = mkF m 0 #[.val (.ref b), .val (.int (0 : Int32)), .val (.int (1 : Int32)), .unset, .unset, .unset] [] := by first | (simp [entryFrame, mkF, argsToLocals, Value.category]; done) | rfl
def Q4_s1 (Z : State) (b : Addr) (kb : ClassId) (gb : Nat → Int32) (h0 : Heap) (n0 : Nat) (v : Option Value) (h : Heap) (L : List Loc) : Prop := ∃ d : Addr, ∃ kd : ClassId, v = some (.ref d) ∧ Fr n0 L ∧ Keep h0 h [] ∧ h0.size ≤ d ∧ AF Z h d kd .byte 1 (fun i => .int ((fun i => own_by (gb i)) i))
set_option maxRecDepth 65536 in
set_option maxHeartbeats 40000000 in
theorem rm4_s1 (l : Launch) (Z : State) (a0 : Array Value) (hw : ∀ d ∈ tables_1, d.before a0 Z = true) (b : Addr) (kb : ClassId) (gb : Nat → Int32) (h0 : Heap) (n0 : Nat) (Zs : n0 ≤ h0.size) (A_b : AF Z h0 b kb .char 1 (fun i => .int (gb i))) (hg : ∀ i, i < 1 → ¬ (255 : Int32) < gb i) :
    Con l Z (⟨"java/lang/StringUTF16", "compress", "([CII)[B"⟩ : MethodName) jdk_52_method_16_code 6 (some (.array .byte)) ({ frames := 1, cells := 1, slots := 1, locals := 18 } : Room) #[(.ref b), (.int (0 : Int32)), (.int (1 : Int32))] h0 (Q4_s1 Z b kb gb h0 n0) := by
  refine Con.intro (plainFor_of_name pn0) (fun m => ef_4_s1 m b) ?_
  intro p e s m below meth c s₁ hx hby hml0 hZ hown hnm hret hlk X0 e0
  have hml : c.maxLocals = 6 := hml0
  have N0 := Fr.nil n0
  have Kp : Keep h0 h0 [] := Keep.refl h0 _
  show Go _ _ _ _ _ _ _ (s₁.setTop (mkF m 0 #[.val (.ref b), .val (.int (0 : Int32)), .val (.int (1 : Int32)), .unset, .unset, .unset] []))
  refine Go.of (fun _ q => XS.iloadN X0.here hx rfl (hb hby d4_0) rfl q) ?_
  show Go _ _ _ _ _ _ _ (s₁.setTop (mkF m 1 #[.val (.ref b), .val (.int (0 : Int32)), .val (.int (1 : Int32)), .unset, .unset, .unset] [(.int (1 : Int32))]))
  obtain ⟨T1, h1, k1, X1, e1, E1, A1, B1, st1⟩ := newPE X0 hx hZ (hw _ (List.mem_of_getElem? (i := 19) rfl)) e0 (g := (mkF m 1 #[.val (.ref b), .val (.int (0 : Int32)), .val (.int (1 : Int32)), .unset, .unset, .unset] [(.int (1 : Int32))])) rfl (hb hby d4_1) rfl (by decide) (cap := 1) (by decide) (by decide) (by decide) (by decide) (ad := "[B") (by decide)
  obtain ⟨d, g1⟩ : ∃ z, z = h0.size := ⟨_, rfl⟩
  rw [← g1] at A1 B1 st1
  refine Go.of st1 ?_
  have g_d : n0 ≤ d := Nat.le_trans Zs (Nat.le_of_eq g1.symm)
  have sz_d : h0.size ≤ d := Nat.le_trans Kp.1 (Nat.le_of_eq g1.symm)
  have ne_b_d : b ≠ d := Nat.ne_of_lt (Nat.lt_of_lt_of_le A_b.lt (Nat.le_of_eq g1.symm))
  have Zs := Nat.le_trans Zs E1.1
  have Kp := Kp.ext E1
  have A_b := A_b.ext E1
  have E_d := B1
  have A_d : AF Z h1 d k1 .byte 1 (fun i => .int ((fun _ => (0 : Int32)) i)) := AF.new A1 (by decide) rfl rfl
  show Go _ _ _ _ _ _ _ (T1.setTop (mkF m 3 #[.val (.ref b), .val (.int (0 : Int32)), .val (.int (1 : Int32)), .unset, .unset, .unset] [(.ref d)]))
  refine Go.of (fun _ q => XS.astoreN X1.here hx rfl (hb hby d4_3) rfl rfl (l' := #[.val (.ref b), .val (.int (0 : Int32)), .val (.int (1 : Int32)), .val (.ref d), .unset, .unset]) rfl q) ?_
  show Go _ _ _ _ _ _ _ (T1.setTop (mkF m 4 #[.val (.ref b), .val (.int (0 : Int32)), .val (.int (1 : Int32)), .val (.ref d), .unset, .unset] []))
  refine Go.of (fun _ q => XS.aloadN X1.here hx rfl (hb hby d4_4) rfl rfl q) ?_
  show Go _ _ _ _ _ _ _ (T1.setTop (mkF m 5 #[.val (.ref b), .val (.int (0 : Int32)), .val (.int (1 : Int32)), .val (.ref d), .unset, .unset] [(.ref b)]))
  refine Go.of (fun _ q => XS.iloadN X1.here hx rfl (hb hby d4_5) rfl q) ?_
  show Go _ _ _ _ _ _ _ (T1.setTop (mkF m 6 #[.val (.ref b), .val (.int (0 : Int32)), .val (.int (1 : Int32)), .val (.ref d), .unset, .unset] [(.int (0 : Int32)), (.ref b)]))
  refine Go.of (fun _ q => XS.aloadN X1.here hx rfl (hb hby d4_6) rfl rfl q) ?_
  show Go _ _ _ _ _ _ _ (T1.setTop (mkF m 7 #[.val (.ref b), .val (.int (0 : Int32)), .val (.int (1 : Int32)), .val (.ref d), .unset, .unset] [(.ref d), (.int (0 : Int32)), (.ref b)]))
  refine Go.of (fun _ q => XS.iconst X1.here hx rfl (hb hby d4_7) q) ?_
  show Go _ _ _ _ _ _ _ (T1.setTop (mkF m 8 #[.val (.ref b), .val (.int (0 : Int32)), .val (.int (1 : Int32)), .val (.ref d), .unset, .unset] [(.int (0 : Int32)), (.ref d), (.int (0 : Int32)), (.ref b)]))
  refine Go.of (fun _ q => XS.iloadN X1.here hx rfl (hb hby d4_8) rfl q) ?_
  show Go _ _ _ _ _ _ _ (T1.setTop (mkF m 9 #[.val (.ref b), .val (.int (0 : Int32)), .val (.int (1 : Int32)), .val (.ref d), .unset, .unset] [(.int (1 : Int32)), (.int (0 : Int32)), (.ref d), (.int (0 : Int32)), (.ref b)]))
  refine Go.static X1 hx hZ (y := (⟨"java/lang/StringUTF16", "compress", "([CI[BII)I"⟩ : MethodName)) (argsL := [(.ref b), (.int (0 : Int32)), (.ref d), (.int (0 : Int32)), (.int (1 : Int32))]) hown (hw _ (List.mem_of_getElem? (i := 20) rfl)) (hw _ (List.mem_of_getElem? (i := 21) rfl)) (hw _ (List.mem_of_getElem? (i := 17) rfl)) (hw _ (List.mem_of_getElem? (i := 22) rfl)) (by decide) 0 e1 (rm5_s1 l Z a0 hw b d kb gb k1 (fun _ => (0 : Int32)) h1 n0 Zs A_b A_d ne_b_d g_d hg) (by decide) (by decide) (by decide) (by decide) (g := (mkF m 9 #[.val (.ref b), .val (.int (0 : Int32)), .val (.int (1 : Int32)), .val (.ref d), .unset, .unset] [(.int (1 : Int32)), (.int (0 : Int32)), (.ref d), (.int (0 : Int32)), (.ref b)])) rfl (by rw [hml]; rfl) (rest := []) (lenOf pd0 rfl) rfl (by show 2 * 0 + _ ≤ _; exact Nat.le_of_eq rfl) (hb hby d4_9) ?_
  intro T2 v2 L2 X2 q2
  obtain ⟨rfl, Nq2, K2, f2_0⟩ := q2
  have N2 := Fr.app N0 Nq2
  have Zs := Nat.le_trans Zs K2.1
  have Kp := Kp.trans K2 (allS (P := fun x => x ∈ [] ∨ h0.size ≤ x) (Or.inr sz_d) all0)
  have A_b := A_b.keep K2 (ninS ne_b_d nin0)
  have E_d := E_d.keep K2
  have A_d := f2_0
  show Go _ _ _ _ _ _ _ (T2.setTop (mkF m 12 #[.val (.ref b), .val (.int (0 : Int32)), .val (.int (1 : Int32)), .val (.ref d), .unset, .unset] [(.int (1 : Int32))]))
  refine Go.of (fun _ q => XS.istore X2.here hx rfl (hb hby d4_12) rfl (l' := #[.val (.ref b), .val (.int (0 : Int32)), .val (.int (1 : Int32)), .val (.ref d), .val (.int (1 : Int32)), .unset]) rfl q) ?_
  show Go _ _ _ _ _ _ _ (T2.setTop (mkF m 14 #[.val (.ref b), .val (.int (0 : Int32)), .val (.int (1 : Int32)), .val (.ref d), .val (.int (1 : Int32)), .unset] []))
  refine Go.of (fun _ q => XS.iload X2.here hx rfl (hb hby d4_14) rfl q) ?_
  show Go _ _ _ _ _ _ _ (T2.setTop (mkF m 16 #[.val (.ref b), .val (.int (0 : Int32)), .val (.int (1 : Int32)), .val (.ref d), .val (.int (1 : Int32)), .unset] [(.int (1 : Int32))]))
  refine Go.of (fun _ q => XS.iloadN X2.here hx rfl (hb hby d4_16) rfl q) ?_
  show Go _ _ _ _ _ _ _ (T2.setTop (mkF m 17 #[.val (.ref b), .val (.int (0 : Int32)), .val (.int (1 : Int32)), .val (.ref d), .val (.int (1 : Int32)), .unset] [(.int (1 : Int32)), (.int (1 : Int32))]))
  refine Go.of (fun _ q => XS.icmpYes X2.here hx rfl (pc0 := 17) (pc' := 57) rfl (hb hby d4_17) rfl (teq rfl).1 (by decide) (by decide) q) ?_
  show Go _ _ _ _ _ _ _ (T2.setTop (mkF m 57 #[.val (.ref b), .val (.int (0 : Int32)), .val (.int (1 : Int32)), .val (.ref d), .val (.int (1 : Int32)), .unset] []))
  refine Go.of (fun _ q => XS.aloadN X2.here hx rfl (hb hby d4_57) rfl rfl q) ?_
  show Go _ _ _ _ _ _ _ (T2.setTop (mkF m 58 #[.val (.ref b), .val (.int (0 : Int32)), .val (.int (1 : Int32)), .val (.ref d), .val (.int (1 : Int32)), .unset] [(.ref d)]))
  refine Go.retA X2 hx hlk hret rfl rfl (hb hby d4_58) (by decide) (by decide) ?_
  exact ⟨d, k1, rfl, N2, Kp, sz_d, A_d⟩
theorem d6_0 : decode jdk_52_method_15_code 0 = .ok (.iload_n 1, 1) := by decide +kernel
theorem d6_1 : decode jdk_52_method_15_code 1 = .ok (.aload_n 0, 1) := by decide +kernel
theorem d6_2 : decode jdk_52_method_15_code 2 = .ok (.arraylength, 1) := by decide +kernel
theorem d6_3 : decode jdk_52_method_15_code 3 = .ok (.isub, 1) := by decide +kernel
theorem d6_4 : decode jdk_52_method_15_code 4 = .ok (.bipush 31, 2) := by decide +kernel
theorem d6_6 : decode jdk_52_method_15_code 6 = .ok (.iushr, 1) := by decide +kernel
theorem d6_7 : decode jdk_52_method_15_code 7 = .ok (.i2b, 1) := by decide +kernel
theorem d6_8 : decode jdk_52_method_15_code 8 = .ok (.ireturn, 1) := by decide +kernel
theorem ef_6_s1 (m : MethodId) (d : Addr) : entryFrame m #[(.ref d), (.int (1 : Int32))] 2 = mkF m 0 #[.val (.ref d), .val (.int (1 : Int32))] [] := by first | (simp [entryFrame, mkF, argsToLocals, Value.category]; done) | rfl
def Q6_s1 (Z : State) (d : Addr) (kd : ClassId) (gd : Nat → Int32) (h0 : Heap) (n0 : Nat) (v : Option Value) (h : Heap) (L : List Loc) : Prop := v = some (.int (0 : Int32)) ∧ Fr n0 L ∧ h = h0
set_option maxRecDepth 65536 in
set_option maxHeartbeats 40000000 in
theorem rm6_s1 (l : Launch) (Z : State) (a0 : Array Value) (hw : ∀ d ∈ tables_1, d.before a0 Z = true) (d : Addr) (kd : ClassId) (gd : Nat → Int32) (h0 : Heap) (n0 : Nat) (Zs : n0 ≤ h0.size) (A_d : AF Z h0 d kd .byte 1 (fun i => .int (gd i))) :
    Con l Z (⟨"java/lang/StringUTF16", "coderFromArrayLen", "([BI)B"⟩ : MethodName) jdk_52_method_15_code 2 (some .byte) ({ frames := 0, cells := 0, slots := 0, locals := 0 } : Room) #[(.ref d), (.int (1 : Int32))] h0 (Q6_s1 Z d kd gd h0 n0) := by
  refine Con.intro (plainFor_of_name pn0) (fun m => ef_6_s1 m d) ?_
  intro p e s m below meth c s₁ hx hby hml0 hZ hown hnm hret hlk X0 e0
  have hml : c.maxLocals = 2 := hml0
  have N0 := Fr.nil n0
  have Kp : Keep h0 h0 [] := Keep.refl h0 _
  show Go _ _ _ _ _ _ _ (s₁.setTop (mkF m 0 #[.val (.ref d), .val (.int (1 : Int32))] []))
  refine Go.of (fun _ q => XS.iloadN X0.here hx rfl (hb hby d6_0) rfl q) ?_
  show Go _ _ _ _ _ _ _ (s₁.setTop (mkF m 1 #[.val (.ref d), .val (.int (1 : Int32))] [(.int (1 : Int32))]))
  refine Go.of (fun _ q => XS.aloadN X0.here hx rfl (hb hby d6_1) rfl rfl q) ?_
  show Go _ _ _ _ _ _ _ (s₁.setTop (mkF m 2 #[.val (.ref d), .val (.int (1 : Int32))] [(.ref d), (.int (1 : Int32))]))
  refine Go.of (fun _ q => AF.length A_d X0 hx hZ e0 rfl (g := (mkF m 2 #[.val (.ref d), .val (.int (1 : Int32))] [(.ref d), (.int (1 : Int32))])) rfl rfl (hb hby d6_2) q) ?_
  show Go _ _ _ _ _ _ _ (s₁.setTop (mkF m 3 #[.val (.ref d), .val (.int (1 : Int32))] [(.int (1 : Int32)), (.int (1 : Int32))]))
  refine Go.of (fun _ q => XS.isub X0.here hx rfl (hb hby d6_3) rfl q) ?_
  show Go _ _ _ _ _ _ _ (s₁.setTop (mkF m 4 #[.val (.ref d), .val (.int (1 : Int32))] [(.int (0 : Int32))]))
  refine Go.of (fun _ q => XS.bipush X0.here hx rfl (hb hby d6_4) q) ?_
  show Go _ _ _ _ _ _ _ (s₁.setTop (mkF m 6 #[.val (.ref d), .val (.int (1 : Int32))] [(.int (31 : Int32)), (.int (0 : Int32))]))
  refine Go.of (fun _ q => XS.iushr X0.here hx rfl (hb hby d6_6) rfl q) ?_
  show Go _ _ _ _ _ _ _ (s₁.setTop (mkF m 7 #[.val (.ref d), .val (.int (1 : Int32))] [(.int (0 : Int32))]))
  refine Go.of (fun _ q => XS.i2b X0.here hx rfl (hb hby d6_7) rfl q) ?_
  show Go _ _ _ _ _ _ _ (s₁.setTop (mkF m 8 #[.val (.ref d), .val (.int (1 : Int32))] [(.int (0 : Int32))]))
  refine Go.retN X0 hx hlk (t := .byte) hret (by simp) (hb hby d6_8) rfl (by decide) (by decide) ?_
  rw [e0]
  exact ⟨rfl, N0, rfl⟩
theorem pd1 : parseMethodDescriptor "([CII)[B" = some ⟨[(.array .char), .int, .int], some (.array .byte)⟩ := by decide +kernel
theorem pd2 : parseMethodDescriptor "([BI)B" = some ⟨[(.array .byte), .int], some .byte⟩ := by decide +kernel
theorem d2_0 : decode jdk_42_method_149_code 0 = .ok (.aload_n 0, 1) := by decide +kernel
theorem d2_1 : decode jdk_42_method_149_code 1 = .ok (.invokespecial 1, 3) := by decide +kernel
theorem d2_4 : decode jdk_42_method_149_code 4 = .ok (.iload_n 3, 1) := by decide +kernel
theorem d2_5 : decode jdk_42_method_149_code 5 = .ok (.ifCond .ne 22, 3) := by decide +kernel
theorem d2_27 : decode jdk_42_method_149_code 27 = .ok (.getstatic 38, 3) := by decide +kernel
theorem d2_30 : decode jdk_42_method_149_code 30 = .ok (.ifCond .eq 28, 3) := by decide +kernel
theorem d2_33 : decode jdk_42_method_149_code 33 = .ok (.aload_n 1, 1) := by decide +kernel
theorem d2_34 : decode jdk_42_method_149_code 34 = .ok (.iload_n 2, 1) := by decide +kernel
theorem d2_35 : decode jdk_42_method_149_code 35 = .ok (.iload_n 3, 1) := by decide +kernel
theorem d2_36 : decode jdk_42_method_149_code 36 = .ok (.invokestatic 177, 3) := by decide +kernel
theorem d2_39 : decode jdk_42_method_149_code 39 = .ok (.astore 5, 2) := by decide +kernel
theorem d2_41 : decode jdk_42_method_149_code 41 = .ok (.aload_n 0, 1) := by decide +kernel
theorem d2_42 : decode jdk_42_method_149_code 42 = .ok (.aload 5, 2) := by decide +kernel
theorem d2_44 : decode jdk_42_method_149_code 44 = .ok (.iload_n 3, 1) := by decide +kernel
theorem d2_45 : decode jdk_42_method_149_code 45 = .ok (.invokestatic 47, 3) := by decide +kernel
theorem d2_48 : decode jdk_42_method_149_code 48 = .ok (.putfield 15, 3) := by decide +kernel
theorem d2_51 : decode jdk_42_method_149_code 51 = .ok (.aload_n 0, 1) := by decide +kernel
theorem d2_52 : decode jdk_42_method_149_code 52 = .ok (.aload 5, 2) := by decide +kernel
theorem d2_54 : decode jdk_42_method_149_code 54 = .ok (.putfield 9, 3) := by decide +kernel
theorem d2_57 : decode jdk_42_method_149_code 57 = .ok (.return_, 1) := by decide +kernel
theorem pn1 : plainName "java/lang/String" = true := by first | (simp [plainName, overriddenIn]; done) | decide +kernel
theorem ef_2_s1 (m : MethodId) (a : Addr) (b : Addr) : entryFrame m #[(.ref a), (.ref b), (.int (0 : Int32)), (.int (1 : Int32)), .null] 6 = mkF m 0 #[.val (.ref a), .val (.ref b), .val (.int (0 : Int32)), .val (.int (1 : Int32)), .val .null, .unset] [] := by first | (simp [entryFrame, mkF, argsToLocals, Value.category]; done) | rfl
def Q2_s1 (Z : State) (a : Addr) (b : Addr) (kb : ClassId) (gb : Nat → Int32) (u1 : Value) (u2 : Int32) (cs : Int32) (h0 : Heap) (n0 : Nat) (v : Option Value) (h : Heap) (L : List Loc) : Prop := ∃ d : Addr, ∃ kd : ClassId, v = none ∧ Fr n0 L ∧ Keep h0 h [a] ∧ h0.size ≤ d ∧ Exa Z h a "java/lang/String" ∧ Fld Z h a "java/lang/String" "value" "[B" (.ref d) ∧ Fld Z h a "java/lang/String" "coder" "B" (.int (0 : Int32)) ∧ AF Z h d kd .byte 1 (fun i => .int ((fun i => own_by (gb i)) i))
set_option maxRecDepth 65536 in
set_option maxHeartbeats 40000000 in
theorem rm2_s1 (l : Launch) (Z : State) (a0 : Array Value) (hw : ∀ d ∈ tables_1, d.before a0 Z = true) (a : Addr) (b : Addr) (kb : ClassId) (gb : Nat → Int32) (u1 : Value) (u2 : Int32) (cs : Int32) (h0 : Heap) (n0 : Nat) (Zs : n0 ≤ h0.size) (Od : Old Z n0 h0) (E_a : Exa Z h0 a "java/lang/String") (F_a_value : Fld Z h0 a "java/lang/String" "value" "[B" u1) (F_a_coder : Fld Z h0 a "java/lang/String" "coder" "B" (.int u2)) (g_a : n0 ≤ a) (A_b : AF Z h0 b kb .char 1 (fun i => .int (gb i))) (ne_b_a : b ≠ a) (hg : ∀ i, i < 1 → ¬ (255 : Int32) < gb i) (Scs : Sta Z Z.heap "java/lang/String" "COMPACT_STRINGS" "Z" (.int cs)) (hcs : ¬ cs = (0 : Int32)) :
    Con l Z (⟨"java/lang/String", "<init>", "([CIILjava/lang/Void;)V"⟩ : MethodName) jdk_42_method_149_code 6 none ({ frames := 2, cells := 1, slots := 1, locals := 35 } : Room) #[(.ref a), (.ref b), (.int (0 : Int32)), (.int (1 : Int32)), .null] h0 (Q2_s1 Z a b kb gb u1 u2 cs h0 n0) := by
  refine Con.intro (plainFor_of_name pn1) (fun m => ef_2_s1 m a b) ?_
  intro p e s m below meth c s₁ hx hby hml0 hZ hown hnm hret hlk X0 e0
  have hml : c.maxLocals = 6 := hml0
  have N0 := Fr.nil n0
  have Kp : Keep h0 h0 [a] := Keep.refl h0 _
  show Go _ _ _ _ _ _ _ (s₁.setTop (mkF m 0 #[.val (.ref a), .val (.ref b), .val (.int (0 : Int32)), .val (.int (1 : Int32)), .val .null, .unset] []))
  refine Go.of (fun _ q => XS.aloadN X0.here hx rfl (hb hby d2_0) rfl rfl q) ?_
  show Go _ _ _ _ _ _ _ (s₁.setTop (mkF m 1 #[.val (.ref a), .val (.ref b), .val (.int (0 : Int32)), .val (.int (1 : Int32)), .val .null, .unset] [(.ref a)]))
  obtain ⟨T1, X1, e1, st1⟩ := initO X0 hx hZ hown (hw _ (List.mem_of_getElem? (i := 11) rfl)) (hw _ (List.mem_of_getElem? (i := 12) rfl)) (hw _ (List.mem_of_getElem? (i := 13) rfl)) e0 (g := (mkF m 1 #[.val (.ref a), .val (.ref b), .val (.int (0 : Int32)), .val (.int (1 : Int32)), .val .null, .unset] [(.ref a)])) rfl (by rw [hml]; rfl) rfl (hb hby d2_1) (by decide) (W := 0) (by show 2 * 0 + _ ≤ _; exact Nat.le_of_eq rfl) (by decide)
  refine Go.of st1 ?_
  show Go _ _ _ _ _ _ _ (T1.setTop (mkF m 4 #[.val (.ref a), .val (.ref b), .val (.int (0 : Int32)), .val (.int (1 : Int32)), .val .null, .unset] []))
  refine Go.of (fun _ q => XS.iloadN X1.here hx rfl (hb hby d2_4) rfl q) ?_
  show Go _ _ _ _ _ _ _ (T1.setTop (mkF m 5 #[.val (.ref a), .val (.ref b), .val (.int (0 : Int32)), .val (.int (1 : Int32)), .val .null, .unset] [(.int (1 : Int32))]))
  refine Go.of (fun _ q => XS.ifYes X1.here hx rfl (pc0 := 5) (pc' := 27) rfl (hb hby d2_5) rfl ((if0 _ _).trans (feq (by decide)).2) (by decide) (by decide) q) ?_
  show Go _ _ _ _ _ _ _ (T1.setTop (mkF m 27 #[.val (.ref a), .val (.ref b), .val (.int (0 : Int32)), .val (.int (1 : Int32)), .val .null, .unset] []))
  obtain ⟨T2, X2, e2, st2⟩ := getS2 X1 hx hZ hown (host := "") (Or.inl (hw _ (List.mem_of_getElem? (i := 14) rfl))) Via.refl e1 (Sta.ext Od.2 Scs) (g := (mkF m 27 #[.val (.ref a), .val (.ref b), .val (.int (0 : Int32)), .val (.int (1 : Int32)), .val .null, .unset] [])) rfl (hb hby d2_27)
  refine Go.of st2 ?_
  show Go _ _ _ _ _ _ _ (T2.setTop (mkF m 30 #[.val (.ref a), .val (.ref b), .val (.int (0 : Int32)), .val (.int (1 : Int32)), .val .null, .unset] [(.int cs)]))
  refine Go.of (fun _ q => XS.ifNo X2.here hx rfl (hb hby d2_30) rfl ((if0 _ _).trans (feq hcs).1) q) ?_
  show Go _ _ _ _ _ _ _ (T2.setTop (mkF m 33 #[.val (.ref a), .val (.ref b), .val (.int (0 : Int32)), .val (.int (1 : Int32)), .val .null, .unset] []))
  refine Go.of (fun _ q => XS.aloadN X2.here hx rfl (hb hby d2_33) rfl rfl q) ?_
  show Go _ _ _ _ _ _ _ (T2.setTop (mkF m 34 #[.val (.ref a), .val (.ref b), .val (.int (0 : Int32)), .val (.int (1 : Int32)), .val .null, .unset] [(.ref b)]))
  refine Go.of (fun _ q => XS.iloadN X2.here hx rfl (hb hby d2_34) rfl q) ?_
  show Go _ _ _ _ _ _ _ (T2.setTop (mkF m 35 #[.val (.ref a), .val (.ref b), .val (.int (0 : Int32)), .val (.int (1 : Int32)), .val .null, .unset] [(.int (0 : Int32)), (.ref b)]))
  refine Go.of (fun _ q => XS.iloadN X2.here hx rfl (hb hby d2_35) rfl q) ?_
  show Go _ _ _ _ _ _ _ (T2.setTop (mkF m 36 #[.val (.ref a), .val (.ref b), .val (.int (0 : Int32)), .val (.int (1 : Int32)), .val .null, .unset] [(.int (1 : Int32)), (.int (0 : Int32)), (.ref b)]))
  refine Go.static X2 hx hZ (y := (⟨"java/lang/StringUTF16", "compress", "([CII)[B"⟩ : MethodName)) (argsL := [(.ref b), (.int (0 : Int32)), (.int (1 : Int32))]) hown (hw _ (List.mem_of_getElem? (i := 15) rfl)) (hw _ (List.mem_of_getElem? (i := 16) rfl)) (hw _ (List.mem_of_getElem? (i := 17) rfl)) (hw _ (List.mem_of_getElem? (i := 18) rfl)) (by decide) 0 e2 (rm4_s1 l Z a0 hw b kb gb h0 n0 Zs A_b hg) (by decide) (by decide) (by decide) (by decide) (g := (mkF m 36 #[.val (.ref a), .val (.ref b), .val (.int (0 : Int32)), .val (.int (1 : Int32)), .val .null, .unset] [(.int (1 : Int32)), (.int (0 : Int32)), (.ref b)])) rfl (by rw [hml]; rfl) (rest := []) (lenOf pd1 rfl) rfl (by show 2 * 0 + _ ≤ _; exact Nat.le_of_eq rfl) (hb hby d2_36) ?_
  intro T3 v3 L3 X3 q3
  obtain ⟨d, kd, rfl, Nq3, K3, f3_0, f3_1⟩ := q3
  have N3 := Fr.app N0 Nq3
  have g_d : n0 ≤ d := Nat.le_trans Zs f3_0
  have sz_d : h0.size ≤ d := Nat.le_trans Kp.1 f3_0
  have ne_a_d : a ≠ d := Nat.ne_of_lt (Nat.lt_of_lt_of_le E_a.lt f3_0)
  have ne_b_d : b ≠ d := Nat.ne_of_lt (Nat.lt_of_lt_of_le A_b.lt f3_0)
  have Zs := Nat.le_trans Zs K3.1
  have Kp := Kp.trans K3 all0
  have Od := Od.keep K3 all0
  have E_a := E_a.keep K3
  have F_a_value := F_a_value.keep K3 nin0
  have F_a_coder := F_a_coder.keep K3 nin0
  have A_b := A_b.keep K3 nin0
  have A_d := f3_1
  show Go _ _ _ _ _ _ _ (T3.setTop (mkF m 39 #[.val (.ref a), .val (.ref b), .val (.int (0 : Int32)), .val (.int (1 : Int32)), .val .null, .unset] [(.ref d)]))
  refine Go.of (fun _ q => XS.astore X3.here hx rfl (hb hby d2_39) rfl rfl (l' := #[.val (.ref a), .val (.ref b), .val (.int (0 : Int32)), .val (.int (1 : Int32)), .val .null, .val (.ref d)]) rfl q) ?_
  show Go _ _ _ _ _ _ _ (T3.setTop (mkF m 41 #[.val (.ref a), .val (.ref b), .val (.int (0 : Int32)), .val (.int (1 : Int32)), .val .null, .val (.ref d)] []))
  refine Go.of (fun _ q => XS.aloadN X3.here hx rfl (hb hby d2_41) rfl rfl q) ?_
  show Go _ _ _ _ _ _ _ (T3.setTop (mkF m 42 #[.val (.ref a), .val (.ref b), .val (.int (0 : Int32)), .val (.int (1 : Int32)), .val .null, .val (.ref d)] [(.ref a)]))
  refine Go.of (fun _ q => XS.aload X3.here hx rfl (hb hby d2_42) rfl rfl q) ?_
  show Go _ _ _ _ _ _ _ (T3.setTop (mkF m 44 #[.val (.ref a), .val (.ref b), .val (.int (0 : Int32)), .val (.int (1 : Int32)), .val .null, .val (.ref d)] [(.ref d), (.ref a)]))
  refine Go.of (fun _ q => XS.iloadN X3.here hx rfl (hb hby d2_44) rfl q) ?_
  show Go _ _ _ _ _ _ _ (T3.setTop (mkF m 45 #[.val (.ref a), .val (.ref b), .val (.int (0 : Int32)), .val (.int (1 : Int32)), .val .null, .val (.ref d)] [(.int (1 : Int32)), (.ref d), (.ref a)]))
  refine Go.static X3 hx hZ (y := (⟨"java/lang/StringUTF16", "coderFromArrayLen", "([BI)B"⟩ : MethodName)) (argsL := [(.ref d), (.int (1 : Int32))]) hown (hw _ (List.mem_of_getElem? (i := 23) rfl)) (hw _ (List.mem_of_getElem? (i := 24) rfl)) (hw _ (List.mem_of_getElem? (i := 17) rfl)) (hw _ (List.mem_of_getElem? (i := 25) rfl)) (by decide) 1 rfl (rm6_s1 l Z a0 hw d kd (fun i => own_by (gb i)) T3.heap n0 Zs A_d) (by decide) (by decide) (by decide) (by decide) (g := (mkF m 45 #[.val (.ref a), .val (.ref b), .val (.int (0 : Int32)), .val (.int (1 : Int32)), .val .null, .val (.ref d)] [(.int (1 : Int32)), (.ref d), (.ref a)])) rfl (by rw [hml]; rfl) (rest := [(.ref a)]) (lenOf pd2 rfl) rfl (by show 2 * 0 + _ ≤ _; exact Nat.le_of_eq rfl) (hb hby d2_45) ?_
  intro T4 v4 L4 X4 q4
  obtain ⟨rfl, Nq4, e4⟩ := q4
  have N4 := Fr.app N3 Nq4
  show Go _ _ _ _ _ _ _ (T4.setTop (mkF m 48 #[.val (.ref a), .val (.ref b), .val (.int (0 : Int32)), .val (.int (1 : Int32)), .val .null, .val (.ref d)] [(.int (0 : Int32)), (.ref a)]))
  obtain ⟨T5, h5, X5, e5, W5, st5⟩ := putFN X4 hx hZ hown (hw _ (List.mem_of_getElem? (i := 26) rfl)) Via.refl e4 F_a_coder E_a (Or.inr ⟨(hw _ (List.mem_of_getElem? (i := 27) rfl)), rfl, hnm⟩) (hw _ (List.mem_of_getElem? (i := 2) rfl)) (ty := .byte) (v' := .int (0 : Int32)) (by decide) rfl rfl (g := (mkF m 48 #[.val (.ref a), .val (.ref b), .val (.int (0 : Int32)), .val (.int (1 : Int32)), .val .null, .val (.ref d)] [(.int (0 : Int32)), (.ref a)])) rfl rfl (hb hby d2_48)
  refine Go.of st5 ?_
  have Zs := Nat.le_trans Zs (Nat.le_of_eq W5.size.symm)
  have Kp := Kp.wr W5 (Or.inl (List.mem_of_getElem? (i := 0) rfl))
  have Od := Od.wr W5 g_a
  have E_a := E_a.wr W5
  have F_a_value := F_a_value.other W5 (Or.inr (slot_ne (Or.inr (hw _ (List.mem_of_getElem? (i := 29) rfl))) (Or.inr (hw _ (List.mem_of_getElem? (i := 27) rfl))) (by decide) (t := (.array .byte)) (t' := .byte) (by decide) (by decide)))
  have F_a_coder := F_a_coder.same W5
  have A_b := A_b.other W5 ne_b_a
  have A_d := A_d.other W5 (Ne.symm ne_a_d)
  have N5 := Fr.snoc X5 N4 g_a
  show Go _ _ _ _ _ _ _ (T5.setTop (mkF m 51 #[.val (.ref a), .val (.ref b), .val (.int (0 : Int32)), .val (.int (1 : Int32)), .val .null, .val (.ref d)] []))
  refine Go.of (fun _ q => XS.aloadN X5.here hx rfl (hb hby d2_51) rfl rfl q) ?_
  show Go _ _ _ _ _ _ _ (T5.setTop (mkF m 52 #[.val (.ref a), .val (.ref b), .val (.int (0 : Int32)), .val (.int (1 : Int32)), .val .null, .val (.ref d)] [(.ref a)]))
  refine Go.of (fun _ q => XS.aload X5.here hx rfl (hb hby d2_52) rfl rfl q) ?_
  show Go _ _ _ _ _ _ _ (T5.setTop (mkF m 54 #[.val (.ref a), .val (.ref b), .val (.int (0 : Int32)), .val (.int (1 : Int32)), .val .null, .val (.ref d)] [(.ref d), (.ref a)]))
  obtain ⟨T6, h6, X6, e6, W6, st6⟩ := putF X5 hx hZ hown (host := "") (Or.inl (hw _ (List.mem_of_getElem? (i := 28) rfl))) Via.refl e5 F_a_value E_a (Or.inr ⟨(hw _ (List.mem_of_getElem? (i := 29) rfl)), rfl, hnm⟩) (hw _ (List.mem_of_getElem? (i := 2) rfl)) (ty := (.array .byte)) (by decide) rfl rfl (g := (mkF m 54 #[.val (.ref a), .val (.ref b), .val (.int (0 : Int32)), .val (.int (1 : Int32)), .val .null, .val (.ref d)] [(.ref d), (.ref a)])) rfl rfl (hb hby d2_54)
  refine Go.of st6 ?_
  have Zs := Nat.le_trans Zs (Nat.le_of_eq W6.size.symm)
  have Kp := Kp.wr W6 (Or.inl (List.mem_of_getElem? (i := 0) rfl))
  have Od := Od.wr W6 g_a
  have E_a := E_a.wr W6
  have F_a_value := F_a_value.same W6
  have F_a_coder := F_a_coder.other W6 (Or.inr (slot_ne (Or.inr (hw _ (List.mem_of_getElem? (i := 27) rfl))) (Or.inr (hw _ (List.mem_of_getElem? (i := 29) rfl))) (by decide) (t := .byte) (t' := (.array .byte)) (by decide) (by decide)))
  have A_b := A_b.other W6 ne_b_a
  have A_d := A_d.other W6 (Ne.symm ne_a_d)
  have N6 := Fr.snoc X6 N5 g_a
  show Go _ _ _ _ _ _ _ (T6.setTop (mkF m 57 #[.val (.ref a), .val (.ref b), .val (.int (0 : Int32)), .val (.int (1 : Int32)), .val .null, .val (.ref d)] []))
  refine Go.retV X6 hx hlk hret (hb hby d2_57) (by decide) (by decide) ?_
  rw [e6]
  exact ⟨d, kd, rfl, N6, Kp, sz_d, E_a, F_a_value, F_a_coder, A_d⟩
theorem pd3 : parseMethodDescriptor "([CIILjava/lang/Void;)V" = some ⟨[(.array .char), .int, .int, (.object "java/lang/Void")], none⟩ := by decide +kernel
theorem d1_0 : decode jdk_42_method_3_code 0 = .ok (.aload_n 0, 1) := by decide +kernel
theorem d1_1 : decode jdk_42_method_3_code 1 = .ok (.aload_n 1, 1) := by decide +kernel
theorem d1_2 : decode jdk_42_method_3_code 2 = .ok (.iconst 0, 1) := by decide +kernel
theorem d1_3 : decode jdk_42_method_3_code 3 = .ok (.aload_n 1, 1) := by decide +kernel
theorem d1_4 : decode jdk_42_method_3_code 4 = .ok (.arraylength, 1) := by decide +kernel
theorem d1_5 : decode jdk_42_method_3_code 5 = .ok (.aconst_null, 1) := by decide +kernel
theorem d1_6 : decode jdk_42_method_3_code 6 = .ok (.invokespecial 27, 3) := by decide +kernel
theorem d1_9 : decode jdk_42_method_3_code 9 = .ok (.return_, 1) := by decide +kernel
theorem ef_1_s1 (m : MethodId) (a : Addr) (b : Addr) : entryFrame m #[(.ref a), (.ref b)] 2 = mkF m 0 #[.val (.ref a), .val (.ref b)] [] := by first | (simp [entryFrame, mkF, argsToLocals, Value.category]; done) | rfl
def Q1_s1 (Z : State) (a : Addr) (b : Addr) (kb : ClassId) (gb : Nat → Int32) (u1 : Value) (u2 : Int32) (cs : Int32) (h0 : Heap) (n0 : Nat) (v : Option Value) (h : Heap) (L : List Loc) : Prop := ∃ d : Addr, ∃ kd : ClassId, v = none ∧ Fr n0 L ∧ Keep h0 h [a] ∧ h0.size ≤ d ∧ Exa Z h a "java/lang/String" ∧ Fld Z h a "java/lang/String" "value" "[B" (.ref d) ∧ Fld Z h a "java/lang/String" "coder" "B" (.int (0 : Int32)) ∧ AF Z h d kd .byte 1 (fun i => .int ((fun i => own_by (gb i)) i))
set_option maxRecDepth 65536 in
set_option maxHeartbeats 40000000 in
theorem rm1_s1 (l : Launch) (Z : State) (a0 : Array Value) (hw : ∀ d ∈ tables_1, d.before a0 Z = true) (a : Addr) (b : Addr) (kb : ClassId) (gb : Nat → Int32) (u1 : Value) (u2 : Int32) (cs : Int32) (h0 : Heap) (n0 : Nat) (Zs : n0 ≤ h0.size) (Od : Old Z n0 h0) (E_a : Exa Z h0 a "java/lang/String") (F_a_value : Fld Z h0 a "java/lang/String" "value" "[B" u1) (F_a_coder : Fld Z h0 a "java/lang/String" "coder" "B" (.int u2)) (g_a : n0 ≤ a) (A_b : AF Z h0 b kb .char 1 (fun i => .int (gb i))) (ne_b_a : b ≠ a) (hg : ∀ i, i < 1 → ¬ (255 : Int32) < gb i) (Scs : Sta Z Z.heap "java/lang/String" "COMPACT_STRINGS" "Z" (.int cs)) (hcs : ¬ cs = (0 : Int32)) :
    Con l Z (⟨"java/lang/String", "<init>", "([C)V"⟩ : MethodName) jdk_42_method_3_code 2 none ({ frames := 3, cells := 1, slots := 1, locals := 52 } : Room) #[(.ref a), (.ref b)] h0 (Q1_s1 Z a b kb gb u1 u2 cs h0 n0) := by
  refine Con.intro (plainFor_of_name pn1) (fun m => ef_1_s1 m a b) ?_
  intro p e s m below meth c s₁ hx hby hml0 hZ hown hnm hret hlk X0 e0
  have hml : c.maxLocals = 2 := hml0
  have N0 := Fr.nil n0
  have Kp : Keep h0 h0 [a] := Keep.refl h0 _
  show Go _ _ _ _ _ _ _ (s₁.setTop (mkF m 0 #[.val (.ref a), .val (.ref b)] []))
  refine Go.of (fun _ q => XS.aloadN X0.here hx rfl (hb hby d1_0) rfl rfl q) ?_
  show Go _ _ _ _ _ _ _ (s₁.setTop (mkF m 1 #[.val (.ref a), .val (.ref b)] [(.ref a)]))
  refine Go.of (fun _ q => XS.aloadN X0.here hx rfl (hb hby d1_1) rfl rfl q) ?_
  show Go _ _ _ _ _ _ _ (s₁.setTop (mkF m 2 #[.val (.ref a), .val (.ref b)] [(.ref b), (.ref a)]))
  refine Go.of (fun _ q => XS.iconst X0.here hx rfl (hb hby d1_2) q) ?_
  show Go _ _ _ _ _ _ _ (s₁.setTop (mkF m 3 #[.val (.ref a), .val (.ref b)] [(.int (0 : Int32)), (.ref b), (.ref a)]))
  refine Go.of (fun _ q => XS.aloadN X0.here hx rfl (hb hby d1_3) rfl rfl q) ?_
  show Go _ _ _ _ _ _ _ (s₁.setTop (mkF m 4 #[.val (.ref a), .val (.ref b)] [(.ref b), (.int (0 : Int32)), (.ref b), (.ref a)]))
  refine Go.of (fun _ q => AF.length A_b X0 hx hZ e0 rfl (g := (mkF m 4 #[.val (.ref a), .val (.ref b)] [(.ref b), (.int (0 : Int32)), (.ref b), (.ref a)])) rfl rfl (hb hby d1_4) q) ?_
  show Go _ _ _ _ _ _ _ (s₁.setTop (mkF m 5 #[.val (.ref a), .val (.ref b)] [(.int (1 : Int32)), (.int (0 : Int32)), (.ref b), (.ref a)]))
  refine Go.of (fun _ q => XS.aconstNull X0.here hx rfl (hb hby d1_5) q) ?_
  show Go _ _ _ _ _ _ _ (s₁.setTop (mkF m 6 #[.val (.ref a), .val (.ref b)] [.null, (.int (1 : Int32)), (.int (0 : Int32)), (.ref b), (.ref a)]))
  refine Go.special X0 hx hZ (y := (⟨"java/lang/String", "<init>", "([CIILjava/lang/Void;)V"⟩ : MethodName)) (a := a) (argsL := [(.ref b), (.int (0 : Int32)), (.int (1 : Int32)), .null]) rfl hown (hw _ (List.mem_of_getElem? (i := 7) rfl)) (hw _ (List.mem_of_getElem? (i := 8) rfl)) (hw _ (List.mem_of_getElem? (i := 3) rfl)) (hw _ (List.mem_of_getElem? (i := 10) rfl)) (by decide) 0 e0 (rm2_s1 l Z a0 hw a b kb gb u1 u2 cs h0 n0 Zs Od E_a F_a_value F_a_coder g_a A_b ne_b_a hg Scs hcs) (by decide) (by decide) (by decide) (by decide) (g := (mkF m 6 #[.val (.ref a), .val (.ref b)] [.null, (.int (1 : Int32)), (.int (0 : Int32)), (.ref b), (.ref a)])) rfl (by rw [hml]; rfl) (rest := []) (lenOf pd3 rfl) rfl (by show 2 * 0 + _ ≤ _; exact Nat.le_of_eq rfl) (hb hby d1_6) ?_
  intro T1 v1 L1 X1 q1
  obtain ⟨d, kd, rfl, Nq1, K1, f1_0, f1_1, f1_2, f1_3, f1_4⟩ := q1
  have N1 := Fr.app N0 Nq1
  have g_d : n0 ≤ d := Nat.le_trans Zs f1_0
  have sz_d : h0.size ≤ d := Nat.le_trans Kp.1 f1_0
  have ne_a_d : a ≠ d := Nat.ne_of_lt (Nat.lt_of_lt_of_le E_a.lt f1_0)
  have ne_b_d : b ≠ d := Nat.ne_of_lt (Nat.lt_of_lt_of_le A_b.lt f1_0)
  have Zs := Nat.le_trans Zs K1.1
  have Kp := Kp.trans K1 (allS (P := fun x => x ∈ [a] ∨ h0.size ≤ x) (Or.inl (List.mem_of_getElem? (i := 0) rfl)) all0)
  have Od := Od.keep K1 (allS (P := fun x => n0 ≤ x) g_a all0)
  have E_a := E_a.keep K1
  have A_b := A_b.keep K1 (ninS ne_b_a nin0)
  have F_a_value := f1_2
  have F_a_coder := f1_3
  have A_d := f1_4
  show Go _ _ _ _ _ _ _ (T1.setTop (mkF m 9 #[.val (.ref a), .val (.ref b)] []))
  refine Go.retV X1 hx hlk hret (hb hby d1_9) (by decide) (by decide) ?_
  exact ⟨d, kd, rfl, N1, Kp, sz_d, E_a, F_a_value, F_a_coder, A_d⟩
theorem ef_5_s2 (m : MethodId) (b : Addr) (d : Addr) : entryFrame m #[(.ref b), (.int (0 : Int32)), (.ref d), (.int (0 : Int32)), (.int (2 : Int32))] 7 = mkF m 0 #[.val (.ref b), .val (.int (0 : Int32)), .val (.ref d), .val (.int (0 : Int32)), .val (.int (2 : Int32)), .unset, .unset] [] := by first | (simp [entryFrame, mkF, argsToLocals, Value.category]; done) | rfl
def Q5_s2 (Z : State) (b : Addr) (d : Addr) (kb : ClassId) (gb : Nat → Int32) (kd : ClassId) (gd : Nat → Int32) (h0 : Heap) (n0 : Nat) (v : Option Value) (h : Heap) (L : List Loc) : Prop := v = some (.int (2 : Int32)) ∧ Fr n0 L ∧ Keep h0 h [d] ∧ AF Z h d kd .byte 2 (fun i => .int ((fun i => own_by (gb i)) i))
set_option maxRecDepth 65536 in
set_option maxHeartbeats 40000000 in
theorem rm5_s2 (l : Launch) (Z : State) (a0 : Array Value) (hw : ∀ d ∈ tables_1, d.before a0 Z = true) (b : Addr) (d : Addr) (kb : ClassId) (gb : Nat → Int32) (kd : ClassId) (gd : Nat → Int32) (h0 : Heap) (n0 : Nat) (Zs : n0 ≤ h0.size) (A_b : AF Z h0 b kb .char 2 (fun i => .int (gb i))) (A_d : AF Z h0 d kd .byte 2 (fun i => .int (gd i))) (ne_b_d : b ≠ d) (g_d : n0 ≤ d) (hg : ∀ i, i < 2 → ¬ (255 : Int32) < gb i) :
    Con l Z (⟨"java/lang/StringUTF16", "compress", "([CI[BII)I"⟩ : MethodName) jdk_52_method_21_code 7 (some .int) ({ frames := 0, cells := 0, slots := 0, locals := 0 } : Room) #[(.ref b), (.int (0 : Int32)), (.ref d), (.int (0 : Int32)), (.int (2 : Int32))] h0 (Q5_s2 Z b d kb gb kd gd h0 n0) := by
  refine Con.intro (plainFor_of_name pn0) (fun m => ef_5_s2 m b d) ?_
  intro p e s m below meth c s₁ hx hby hml0 hZ hown hnm hret hlk X0 e0
  have hml : c.maxLocals = 7 := hml0
  have N0 := Fr.nil n0
  have Kp : Keep h0 h0 [d] := Keep.refl h0 _
  show Go _ _ _ _ _ _ _ (s₁.setTop (mkF m 0 #[.val (.ref b), .val (.int (0 : Int32)), .val (.ref d), .val (.int (0 : Int32)), .val (.int (2 : Int32)), .unset, .unset] []))
  refine Go.of (fun _ q => XS.iconst X0.here hx rfl (hb hby d5_0) q) ?_
  show Go _ _ _ _ _ _ _ (s₁.setTop (mkF m 1 #[.val (.ref b), .val (.int (0 : Int32)), .val (.ref d), .val (.int (0 : Int32)), .val (.int (2 : Int32)), .unset, .unset] [(.int (0 : Int32))]))
  refine Go.of (fun _ q => XS.istore X0.here hx rfl (hb hby d5_1) rfl (l' := #[.val (.ref b), .val (.int (0 : Int32)), .val (.ref d), .val (.int (0 : Int32)), .val (.int (2 : Int32)), .val (.int (0 : Int32)), .unset]) rfl q) ?_
  show Go _ _ _ _ _ _ _ (s₁.setTop (mkF m 3 #[.val (.ref b), .val (.int (0 : Int32)), .val (.ref d), .val (.int (0 : Int32)), .val (.int (2 : Int32)), .val (.int (0 : Int32)), .unset] []))
  refine Go.of (fun _ q => XS.iload X0.here hx rfl (hb hby d5_3) rfl q) ?_
  show Go _ _ _ _ _ _ _ (s₁.setTop (mkF m 5 #[.val (.ref b), .val (.int (0 : Int32)), .val (.ref d), .val (.int (0 : Int32)), .val (.int (2 : Int32)), .val (.int (0 : Int32)), .unset] [(.int (0 : Int32))]))
  refine Go.of (fun _ q => XS.iload X0.here hx rfl (hb hby d5_5) rfl q) ?_
  show Go _ _ _ _ _ _ _ (s₁.setTop (mkF m 7 #[.val (.ref b), .val (.int (0 : Int32)), .val (.ref d), .val (.int (0 : Int32)), .val (.int (2 : Int32)), .val (.int (0 : Int32)), .unset] [(.int (2 : Int32)), (.int (0 : Int32))]))
  refine Go.of (fun _ q => XS.icmpNo X0.here hx rfl (hb hby d5_7) rfl (tlt (by decide)).2.1 q) ?_
  show Go _ _ _ _ _ _ _ (s₁.setTop (mkF m 10 #[.val (.ref b), .val (.int (0 : Int32)), .val (.ref d), .val (.int (0 : Int32)), .val (.int (2 : Int32)), .val (.int (0 : Int32)), .unset] []))
  refine Go.of (fun _ q => XS.aloadN X0.here hx rfl (hb hby d5_10) rfl rfl q) ?_
  show Go _ _ _ _ _ _ _ (s₁.setTop (mkF m 11 #[.val (.ref b), .val (.int (0 : Int32)), .val (.ref d), .val (.int (0 : Int32)), .val (.int (2 : Int32)), .val (.int (0 : Int32)), .unset] [(.ref b)]))
  refine Go.of (fun _ q => XS.iloadN X0.here hx rfl (hb hby d5_11) rfl q) ?_
  show Go _ _ _ _ _ _ _ (s₁.setTop (mkF m 12 #[.val (.ref b), .val (.int (0 : Int32)), .val (.ref d), .val (.int (0 : Int32)), .val (.int (2 : Int32)), .val (.int (0 : Int32)), .unset] [(.int (0 : Int32)), (.ref b)]))
  refine Go.of (fun _ q => AF.caload A_b X0 hx hZ e0 ⟨rfl, by decide, by decide⟩ (v := (.int (gb 0))) rfl (g := (mkF m 12 #[.val (.ref b), .val (.int (0 : Int32)), .val (.ref d), .val (.int (0 : Int32)), .val (.int (2 : Int32)), .val (.int (0 : Int32)), .unset] [(.int (0 : Int32)), (.ref b)])) rfl rfl (hb hby d5_12) q) ?_
  show Go _ _ _ _ _ _ _ (s₁.setTop (mkF m 13 #[.val (.ref b), .val (.int (0 : Int32)), .val (.ref d), .val (.int (0 : Int32)), .val (.int (2 : Int32)), .val (.int (0 : Int32)), .unset] [(.int (gb 0))]))
  refine Go.of (fun _ q => XS.istore X0.here hx rfl (hb hby d5_13) rfl (l' := #[.val (.ref b), .val (.int (0 : Int32)), .val (.ref d), .val (.int (0 : Int32)), .val (.int (2 : Int32)), .val (.int (0 : Int32)), .val (.int (gb 0))]) rfl q) ?_
  show Go _ _ _ _ _ _ _ (s₁.setTop (mkF m 15 #[.val (.ref b), .val (.int (0 : Int32)), .val (.ref d), .val (.int (0 : Int32)), .val (.int (2 : Int32)), .val (.int (0 : Int32)), .val (.int (gb 0))] []))
  refine Go.of (fun _ q => XS.iload X0.here hx rfl (hb hby d5_15) rfl q) ?_
  show Go _ _ _ _ _ _ _ (s₁.setTop (mkF m 17 #[.val (.ref b), .val (.int (0 : Int32)), .val (.ref d), .val (.int (0 : Int32)), .val (.int (2 : Int32)), .val (.int (0 : Int32)), .val (.int (gb 0))] [(.int (gb 0))]))
  refine Go.of (fun _ q => XS.sipush X0.here hx rfl (hb hby d5_17) q) ?_
  show Go _ _ _ _ _ _ _ (s₁.setTop (mkF m 20 #[.val (.ref b), .val (.int (0 : Int32)), .val (.ref d), .val (.int (0 : Int32)), .val (.int (2 : Int32)), .val (.int (0 : Int32)), .val (.int (gb 0))] [(.int (255 : Int32)), (.int (gb 0))]))
  refine Go.of (fun _ q => XS.icmpYes X0.here hx rfl (pc0 := 20) (pc' := 26) rfl (hb hby d5_20) rfl (flt (hg 0 (by decide))).2.2.2 (by decide) (by decide) q) ?_
  show Go _ _ _ _ _ _ _ (s₁.setTop (mkF m 26 #[.val (.ref b), .val (.int (0 : Int32)), .val (.ref d), .val (.int (0 : Int32)), .val (.int (2 : Int32)), .val (.int (0 : Int32)), .val (.int (gb 0))] []))
  refine Go.of (fun _ q => XS.aloadN X0.here hx rfl (hb hby d5_26) rfl rfl q) ?_
  show Go _ _ _ _ _ _ _ (s₁.setTop (mkF m 27 #[.val (.ref b), .val (.int (0 : Int32)), .val (.ref d), .val (.int (0 : Int32)), .val (.int (2 : Int32)), .val (.int (0 : Int32)), .val (.int (gb 0))] [(.ref d)]))
  refine Go.of (fun _ q => XS.iloadN X0.here hx rfl (hb hby d5_27) rfl q) ?_
  show Go _ _ _ _ _ _ _ (s₁.setTop (mkF m 28 #[.val (.ref b), .val (.int (0 : Int32)), .val (.ref d), .val (.int (0 : Int32)), .val (.int (2 : Int32)), .val (.int (0 : Int32)), .val (.int (gb 0))] [(.int (0 : Int32)), (.ref d)]))
  refine Go.of (fun _ q => XS.iload X0.here hx rfl (hb hby d5_28) rfl q) ?_
  show Go _ _ _ _ _ _ _ (s₁.setTop (mkF m 30 #[.val (.ref b), .val (.int (0 : Int32)), .val (.ref d), .val (.int (0 : Int32)), .val (.int (2 : Int32)), .val (.int (0 : Int32)), .val (.int (gb 0))] [(.int (gb 0)), (.int (0 : Int32)), (.ref d)]))
  refine Go.of (fun _ q => XS.i2b X0.here hx rfl (hb hby d5_30) rfl q) ?_
  show Go _ _ _ _ _ _ _ (s₁.setTop (mkF m 31 #[.val (.ref b), .val (.int (0 : Int32)), .val (.ref d), .val (.int (0 : Int32)), .val (.int (2 : Int32)), .val (.int (0 : Int32)), .val (.int (gb 0))] [(.int ((gb 0).toInt8.toInt32)), (.int (0 : Int32)), (.ref d)]))
  obtain ⟨T1, h1, X1, e1, W1, A1', st1⟩ := AF.bastore A_d X0 hx hZ e0 (i := 0) ⟨rfl, by decide, by decide⟩ (g := (mkF m 31 #[.val (.ref b), .val (.int (0 : Int32)), .val (.ref d), .val (.int (0 : Int32)), .val (.int (2 : Int32)), .val (.int (0 : Int32)), .val (.int (gb 0))] [(.int ((gb 0).toInt8.toInt32)), (.int (0 : Int32)), (.ref d)])) rfl rfl (hb hby d5_31)
  refine Go.of st1 ?_
  have Zs := Nat.le_trans Zs (Nat.le_of_eq W1.size.symm)
  have Kp := Kp.wr W1 (Or.inl (List.mem_of_getElem? (i := 0) rfl))
  have A_b := A_b.other W1 ne_b_d
  have A_d : AF Z h1 d kd .byte 2 (fun i => .int ((upI gd 0 (((gb 0).toInt8.toInt32).toInt8.toInt32)) i)) := A1'.toI
  have N1 := Fr.snoc X1 N0 g_d
  show Go _ _ _ _ _ _ _ (T1.setTop (mkF m 32 #[.val (.ref b), .val (.int (0 : Int32)), .val (.ref d), .val (.int (0 : Int32)), .val (.int (2 : Int32)), .val (.int (0 : Int32)), .val (.int (gb 0))] []))
  refine Go.of (fun _ q => XS.iinc X1.here hx rfl (hb hby d5_32) rfl (l' := #[.val (.ref b), .val (.int (1 : Int32)), .val (.ref d), .val (.int (0 : Int32)), .val (.int (2 : Int32)), .val (.int (0 : Int32)), .val (.int (gb 0))]) rfl q) ?_
  show Go _ _ _ _ _ _ _ (T1.setTop (mkF m 35 #[.val (.ref b), .val (.int (1 : Int32)), .val (.ref d), .val (.int (0 : Int32)), .val (.int (2 : Int32)), .val (.int (0 : Int32)), .val (.int (gb 0))] []))
  refine Go.of (fun _ q => XS.iinc X1.here hx rfl (hb hby d5_35) rfl (l' := #[.val (.ref b), .val (.int (1 : Int32)), .val (.ref d), .val (.int (1 : Int32)), .val (.int (2 : Int32)), .val (.int (0 : Int32)), .val (.int (gb 0))]) rfl q) ?_
  show Go _ _ _ _ _ _ _ (T1.setTop (mkF m 38 #[.val (.ref b), .val (.int (1 : Int32)), .val (.ref d), .val (.int (1 : Int32)), .val (.int (2 : Int32)), .val (.int (0 : Int32)), .val (.int (gb 0))] []))
  refine Go.of (fun _ q => XS.iinc X1.here hx rfl (hb hby d5_38) rfl (l' := #[.val (.ref b), .val (.int (1 : Int32)), .val (.ref d), .val (.int (1 : Int32)), .val (.int (2 : Int32)), .val (.int (1 : Int32)), .val (.int (gb 0))]) rfl q) ?_
  show Go _ _ _ _ _ _ _ (T1.setTop (mkF m 41 #[.val (.ref b), .val (.int (1 : Int32)), .val (.ref d), .val (.int (1 : Int32)), .val (.int (2 : Int32)), .val (.int (1 : Int32)), .val (.int (gb 0))] []))
  refine Go.of (fun _ q => XS.goto X1.here hx rfl (pc0 := 41) (pc' := 3) rfl (hb hby d5_41) (by decide) (by decide) q) ?_
  show Go _ _ _ _ _ _ _ (T1.setTop (mkF m 3 #[.val (.ref b), .val (.int (1 : Int32)), .val (.ref d), .val (.int (1 : Int32)), .val (.int (2 : Int32)), .val (.int (1 : Int32)), .val (.int (gb 0))] []))
  refine Go.of (fun _ q => XS.iload X1.here hx rfl (hb hby d5_3) rfl q) ?_
  show Go _ _ _ _ _ _ _ (T1.setTop (mkF m 5 #[.val (.ref b), .val (.int (1 : Int32)), .val (.ref d), .val (.int (1 : Int32)), .val (.int (2 : Int32)), .val (.int (1 : Int32)), .val (.int (gb 0))] [(.int (1 : Int32))]))
  refine Go.of (fun _ q => XS.iload X1.here hx rfl (hb hby d5_5) rfl q) ?_
  show Go _ _ _ _ _ _ _ (T1.setTop (mkF m 7 #[.val (.ref b), .val (.int (1 : Int32)), .val (.ref d), .val (.int (1 : Int32)), .val (.int (2 : Int32)), .val (.int (1 : Int32)), .val (.int (gb 0))] [(.int (2 : Int32)), (.int (1 : Int32))]))
  refine Go.of (fun _ q => XS.icmpNo X1.here hx rfl (hb hby d5_7) rfl (tlt (by decide)).2.1 q) ?_
  show Go _ _ _ _ _ _ _ (T1.setTop (mkF m 10 #[.val (.ref b), .val (.int (1 : Int32)), .val (.ref d), .val (.int (1 : Int32)), .val (.int (2 : Int32)), .val (.int (1 : Int32)), .val (.int (gb 0))] []))
  refine Go.of (fun _ q => XS.aloadN X1.here hx rfl (hb hby d5_10) rfl rfl q) ?_
  show Go _ _ _ _ _ _ _ (T1.setTop (mkF m 11 #[.val (.ref b), .val (.int (1 : Int32)), .val (.ref d), .val (.int (1 : Int32)), .val (.int (2 : Int32)), .val (.int (1 : Int32)), .val (.int (gb 0))] [(.ref b)]))
  refine Go.of (fun _ q => XS.iloadN X1.here hx rfl (hb hby d5_11) rfl q) ?_
  show Go _ _ _ _ _ _ _ (T1.setTop (mkF m 12 #[.val (.ref b), .val (.int (1 : Int32)), .val (.ref d), .val (.int (1 : Int32)), .val (.int (2 : Int32)), .val (.int (1 : Int32)), .val (.int (gb 0))] [(.int (1 : Int32)), (.ref b)]))
  refine Go.of (fun _ q => AF.caload A_b X1 hx hZ e1 ⟨rfl, by decide, by decide⟩ (v := (.int (gb 1))) rfl (g := (mkF m 12 #[.val (.ref b), .val (.int (1 : Int32)), .val (.ref d), .val (.int (1 : Int32)), .val (.int (2 : Int32)), .val (.int (1 : Int32)), .val (.int (gb 0))] [(.int (1 : Int32)), (.ref b)])) rfl rfl (hb hby d5_12) q) ?_
  show Go _ _ _ _ _ _ _ (T1.setTop (mkF m 13 #[.val (.ref b), .val (.int (1 : Int32)), .val (.ref d), .val (.int (1 : Int32)), .val (.int (2 : Int32)), .val (.int (1 : Int32)), .val (.int (gb 0))] [(.int (gb 1))]))
  refine Go.of (fun _ q => XS.istore X1.here hx rfl (hb hby d5_13) rfl (l' := #[.val (.ref b), .val (.int (1 : Int32)), .val (.ref d), .val (.int (1 : Int32)), .val (.int (2 : Int32)), .val (.int (1 : Int32)), .val (.int (gb 1))]) rfl q) ?_
  show Go _ _ _ _ _ _ _ (T1.setTop (mkF m 15 #[.val (.ref b), .val (.int (1 : Int32)), .val (.ref d), .val (.int (1 : Int32)), .val (.int (2 : Int32)), .val (.int (1 : Int32)), .val (.int (gb 1))] []))
  refine Go.of (fun _ q => XS.iload X1.here hx rfl (hb hby d5_15) rfl q) ?_
  show Go _ _ _ _ _ _ _ (T1.setTop (mkF m 17 #[.val (.ref b), .val (.int (1 : Int32)), .val (.ref d), .val (.int (1 : Int32)), .val (.int (2 : Int32)), .val (.int (1 : Int32)), .val (.int (gb 1))] [(.int (gb 1))]))
  refine Go.of (fun _ q => XS.sipush X1.here hx rfl (hb hby d5_17) q) ?_
  show Go _ _ _ _ _ _ _ (T1.setTop (mkF m 20 #[.val (.ref b), .val (.int (1 : Int32)), .val (.ref d), .val (.int (1 : Int32)), .val (.int (2 : Int32)), .val (.int (1 : Int32)), .val (.int (gb 1))] [(.int (255 : Int32)), (.int (gb 1))]))
  refine Go.of (fun _ q => XS.icmpYes X1.here hx rfl (pc0 := 20) (pc' := 26) rfl (hb hby d5_20) rfl (flt (hg 1 (by decide))).2.2.2 (by decide) (by decide) q) ?_
  show Go _ _ _ _ _ _ _ (T1.setTop (mkF m 26 #[.val (.ref b), .val (.int (1 : Int32)), .val (.ref d), .val (.int (1 : Int32)), .val (.int (2 : Int32)), .val (.int (1 : Int32)), .val (.int (gb 1))] []))
  refine Go.of (fun _ q => XS.aloadN X1.here hx rfl (hb hby d5_26) rfl rfl q) ?_
  show Go _ _ _ _ _ _ _ (T1.setTop (mkF m 27 #[.val (.ref b), .val (.int (1 : Int32)), .val (.ref d), .val (.int (1 : Int32)), .val (.int (2 : Int32)), .val (.int (1 : Int32)), .val (.int (gb 1))] [(.ref d)]))
  refine Go.of (fun _ q => XS.iloadN X1.here hx rfl (hb hby d5_27) rfl q) ?_
  show Go _ _ _ _ _ _ _ (T1.setTop (mkF m 28 #[.val (.ref b), .val (.int (1 : Int32)), .val (.ref d), .val (.int (1 : Int32)), .val (.int (2 : Int32)), .val (.int (1 : Int32)), .val (.int (gb 1))] [(.int (1 : Int32)), (.ref d)]))
  refine Go.of (fun _ q => XS.iload X1.here hx rfl (hb hby d5_28) rfl q) ?_
  show Go _ _ _ _ _ _ _ (T1.setTop (mkF m 30 #[.val (.ref b), .val (.int (1 : Int32)), .val (.ref d), .val (.int (1 : Int32)), .val (.int (2 : Int32)), .val (.int (1 : Int32)), .val (.int (gb 1))] [(.int (gb 1)), (.int (1 : Int32)), (.ref d)]))
  refine Go.of (fun _ q => XS.i2b X1.here hx rfl (hb hby d5_30) rfl q) ?_
  show Go _ _ _ _ _ _ _ (T1.setTop (mkF m 31 #[.val (.ref b), .val (.int (1 : Int32)), .val (.ref d), .val (.int (1 : Int32)), .val (.int (2 : Int32)), .val (.int (1 : Int32)), .val (.int (gb 1))] [(.int ((gb 1).toInt8.toInt32)), (.int (1 : Int32)), (.ref d)]))
  obtain ⟨T2, h2, X2, e2, W2, A2', st2⟩ := AF.bastore A_d X1 hx hZ e1 (i := 1) ⟨rfl, by decide, by decide⟩ (g := (mkF m 31 #[.val (.ref b), .val (.int (1 : Int32)), .val (.ref d), .val (.int (1 : Int32)), .val (.int (2 : Int32)), .val (.int (1 : Int32)), .val (.int (gb 1))] [(.int ((gb 1).toInt8.toInt32)), (.int (1 : Int32)), (.ref d)])) rfl rfl (hb hby d5_31)
  refine Go.of st2 ?_
  have Zs := Nat.le_trans Zs (Nat.le_of_eq W2.size.symm)
  have Kp := Kp.wr W2 (Or.inl (List.mem_of_getElem? (i := 0) rfl))
  have A_b := A_b.other W2 ne_b_d
  have A_d : AF Z h2 d kd .byte 2 (fun i => .int ((upI (upI gd 0 (((gb 0).toInt8.toInt32).toInt8.toInt32)) 1 (((gb 1).toInt8.toInt32).toInt8.toInt32)) i)) := A2'.toI
  have N2 := Fr.snoc X2 N1 g_d
  show Go _ _ _ _ _ _ _ (T2.setTop (mkF m 32 #[.val (.ref b), .val (.int (1 : Int32)), .val (.ref d), .val (.int (1 : Int32)), .val (.int (2 : Int32)), .val (.int (1 : Int32)), .val (.int (gb 1))] []))
  refine Go.of (fun _ q => XS.iinc X2.here hx rfl (hb hby d5_32) rfl (l' := #[.val (.ref b), .val (.int (2 : Int32)), .val (.ref d), .val (.int (1 : Int32)), .val (.int (2 : Int32)), .val (.int (1 : Int32)), .val (.int (gb 1))]) rfl q) ?_
  show Go _ _ _ _ _ _ _ (T2.setTop (mkF m 35 #[.val (.ref b), .val (.int (2 : Int32)), .val (.ref d), .val (.int (1 : Int32)), .val (.int (2 : Int32)), .val (.int (1 : Int32)), .val (.int (gb 1))] []))
  refine Go.of (fun _ q => XS.iinc X2.here hx rfl (hb hby d5_35) rfl (l' := #[.val (.ref b), .val (.int (2 : Int32)), .val (.ref d), .val (.int (2 : Int32)), .val (.int (2 : Int32)), .val (.int (1 : Int32)), .val (.int (gb 1))]) rfl q) ?_
  show Go _ _ _ _ _ _ _ (T2.setTop (mkF m 38 #[.val (.ref b), .val (.int (2 : Int32)), .val (.ref d), .val (.int (2 : Int32)), .val (.int (2 : Int32)), .val (.int (1 : Int32)), .val (.int (gb 1))] []))
  refine Go.of (fun _ q => XS.iinc X2.here hx rfl (hb hby d5_38) rfl (l' := #[.val (.ref b), .val (.int (2 : Int32)), .val (.ref d), .val (.int (2 : Int32)), .val (.int (2 : Int32)), .val (.int (2 : Int32)), .val (.int (gb 1))]) rfl q) ?_
  show Go _ _ _ _ _ _ _ (T2.setTop (mkF m 41 #[.val (.ref b), .val (.int (2 : Int32)), .val (.ref d), .val (.int (2 : Int32)), .val (.int (2 : Int32)), .val (.int (2 : Int32)), .val (.int (gb 1))] []))
  refine Go.of (fun _ q => XS.goto X2.here hx rfl (pc0 := 41) (pc' := 3) rfl (hb hby d5_41) (by decide) (by decide) q) ?_
  show Go _ _ _ _ _ _ _ (T2.setTop (mkF m 3 #[.val (.ref b), .val (.int (2 : Int32)), .val (.ref d), .val (.int (2 : Int32)), .val (.int (2 : Int32)), .val (.int (2 : Int32)), .val (.int (gb 1))] []))
  refine Go.of (fun _ q => XS.iload X2.here hx rfl (hb hby d5_3) rfl q) ?_
  show Go _ _ _ _ _ _ _ (T2.setTop (mkF m 5 #[.val (.ref b), .val (.int (2 : Int32)), .val (.ref d), .val (.int (2 : Int32)), .val (.int (2 : Int32)), .val (.int (2 : Int32)), .val (.int (gb 1))] [(.int (2 : Int32))]))
  refine Go.of (fun _ q => XS.iload X2.here hx rfl (hb hby d5_5) rfl q) ?_
  show Go _ _ _ _ _ _ _ (T2.setTop (mkF m 7 #[.val (.ref b), .val (.int (2 : Int32)), .val (.ref d), .val (.int (2 : Int32)), .val (.int (2 : Int32)), .val (.int (2 : Int32)), .val (.int (gb 1))] [(.int (2 : Int32)), (.int (2 : Int32))]))
  refine Go.of (fun _ q => XS.icmpYes X2.here hx rfl (pc0 := 7) (pc' := 44) rfl (hb hby d5_7) rfl (flt (by decide)).2.1 (by decide) (by decide) q) ?_
  show Go _ _ _ _ _ _ _ (T2.setTop (mkF m 44 #[.val (.ref b), .val (.int (2 : Int32)), .val (.ref d), .val (.int (2 : Int32)), .val (.int (2 : Int32)), .val (.int (2 : Int32)), .val (.int (gb 1))] []))
  refine Go.of (fun _ q => XS.iload X2.here hx rfl (hb hby d5_44) rfl q) ?_
  show Go _ _ _ _ _ _ _ (T2.setTop (mkF m 46 #[.val (.ref b), .val (.int (2 : Int32)), .val (.ref d), .val (.int (2 : Int32)), .val (.int (2 : Int32)), .val (.int (2 : Int32)), .val (.int (gb 1))] [(.int (2 : Int32))]))
  refine Go.retI X2 hx hlk hret (hb hby d5_46) (by decide) (by decide) ?_
  rw [e2]
  exact ⟨rfl, N2, Kp, (AF.cast A_d (fun i hi => by rcases (show i = 0 ∨ i = 1 by omega) with rfl | rfl <;> simp [upI, own_by]))⟩
theorem ef_4_s2 (m : MethodId) (b : Addr) : entryFrame m #[(.ref b), (.int (0 : Int32)), (.int (2 : Int32))] 6 = mkF m 0 #[.val (.ref b), .val (.int (0 : Int32)), .val (.int (2 : Int32)), .unset, .unset, .unset] [] := by first | (simp [entryFrame, mkF, argsToLocals, Value.category]; done) | rfl
def Q4_s2 (Z : State) (b : Addr) (kb : ClassId) (gb : Nat → Int32) (h0 : Heap) (n0 : Nat) (v : Option Value) (h : Heap) (L : List Loc) : Prop := ∃ d : Addr, ∃ kd : ClassId, v = some (.ref d) ∧ Fr n0 L ∧ Keep h0 h [] ∧ h0.size ≤ d ∧ AF Z h d kd .byte 2 (fun i => .int ((fun i => own_by (gb i)) i))
set_option maxRecDepth 65536 in
set_option maxHeartbeats 40000000 in
theorem rm4_s2 (l : Launch) (Z : State) (a0 : Array Value) (hw : ∀ d ∈ tables_1, d.before a0 Z = true) (b : Addr) (kb : ClassId) (gb : Nat → Int32) (h0 : Heap) (n0 : Nat) (Zs : n0 ≤ h0.size) (A_b : AF Z h0 b kb .char 2 (fun i => .int (gb i))) (hg : ∀ i, i < 2 → ¬ (255 : Int32) < gb i) :
    Con l Z (⟨"java/lang/StringUTF16", "compress", "([CII)[B"⟩ : MethodName) jdk_52_method_16_code 6 (some (.array .byte)) ({ frames := 1, cells := 1, slots := 2, locals := 18 } : Room) #[(.ref b), (.int (0 : Int32)), (.int (2 : Int32))] h0 (Q4_s2 Z b kb gb h0 n0) := by
  refine Con.intro (plainFor_of_name pn0) (fun m => ef_4_s2 m b) ?_
  intro p e s m below meth c s₁ hx hby hml0 hZ hown hnm hret hlk X0 e0
  have hml : c.maxLocals = 6 := hml0
  have N0 := Fr.nil n0
  have Kp : Keep h0 h0 [] := Keep.refl h0 _
  show Go _ _ _ _ _ _ _ (s₁.setTop (mkF m 0 #[.val (.ref b), .val (.int (0 : Int32)), .val (.int (2 : Int32)), .unset, .unset, .unset] []))
  refine Go.of (fun _ q => XS.iloadN X0.here hx rfl (hb hby d4_0) rfl q) ?_
  show Go _ _ _ _ _ _ _ (s₁.setTop (mkF m 1 #[.val (.ref b), .val (.int (0 : Int32)), .val (.int (2 : Int32)), .unset, .unset, .unset] [(.int (2 : Int32))]))
  obtain ⟨T1, h1, k1, X1, e1, E1, A1, B1, st1⟩ := newPE X0 hx hZ (hw _ (List.mem_of_getElem? (i := 19) rfl)) e0 (g := (mkF m 1 #[.val (.ref b), .val (.int (0 : Int32)), .val (.int (2 : Int32)), .unset, .unset, .unset] [(.int (2 : Int32))])) rfl (hb hby d4_1) rfl (by decide) (cap := 2) (by decide) (by decide) (by decide) (by decide) (ad := "[B") (by decide)
  obtain ⟨d, g1⟩ : ∃ z, z = h0.size := ⟨_, rfl⟩
  rw [← g1] at A1 B1 st1
  refine Go.of st1 ?_
  have g_d : n0 ≤ d := Nat.le_trans Zs (Nat.le_of_eq g1.symm)
  have sz_d : h0.size ≤ d := Nat.le_trans Kp.1 (Nat.le_of_eq g1.symm)
  have ne_b_d : b ≠ d := Nat.ne_of_lt (Nat.lt_of_lt_of_le A_b.lt (Nat.le_of_eq g1.symm))
  have Zs := Nat.le_trans Zs E1.1
  have Kp := Kp.ext E1
  have A_b := A_b.ext E1
  have E_d := B1
  have A_d : AF Z h1 d k1 .byte 2 (fun i => .int ((fun _ => (0 : Int32)) i)) := AF.new A1 (by decide) rfl rfl
  show Go _ _ _ _ _ _ _ (T1.setTop (mkF m 3 #[.val (.ref b), .val (.int (0 : Int32)), .val (.int (2 : Int32)), .unset, .unset, .unset] [(.ref d)]))
  refine Go.of (fun _ q => XS.astoreN X1.here hx rfl (hb hby d4_3) rfl rfl (l' := #[.val (.ref b), .val (.int (0 : Int32)), .val (.int (2 : Int32)), .val (.ref d), .unset, .unset]) rfl q) ?_
  show Go _ _ _ _ _ _ _ (T1.setTop (mkF m 4 #[.val (.ref b), .val (.int (0 : Int32)), .val (.int (2 : Int32)), .val (.ref d), .unset, .unset] []))
  refine Go.of (fun _ q => XS.aloadN X1.here hx rfl (hb hby d4_4) rfl rfl q) ?_
  show Go _ _ _ _ _ _ _ (T1.setTop (mkF m 5 #[.val (.ref b), .val (.int (0 : Int32)), .val (.int (2 : Int32)), .val (.ref d), .unset, .unset] [(.ref b)]))
  refine Go.of (fun _ q => XS.iloadN X1.here hx rfl (hb hby d4_5) rfl q) ?_
  show Go _ _ _ _ _ _ _ (T1.setTop (mkF m 6 #[.val (.ref b), .val (.int (0 : Int32)), .val (.int (2 : Int32)), .val (.ref d), .unset, .unset] [(.int (0 : Int32)), (.ref b)]))
  refine Go.of (fun _ q => XS.aloadN X1.here hx rfl (hb hby d4_6) rfl rfl q) ?_
  show Go _ _ _ _ _ _ _ (T1.setTop (mkF m 7 #[.val (.ref b), .val (.int (0 : Int32)), .val (.int (2 : Int32)), .val (.ref d), .unset, .unset] [(.ref d), (.int (0 : Int32)), (.ref b)]))
  refine Go.of (fun _ q => XS.iconst X1.here hx rfl (hb hby d4_7) q) ?_
  show Go _ _ _ _ _ _ _ (T1.setTop (mkF m 8 #[.val (.ref b), .val (.int (0 : Int32)), .val (.int (2 : Int32)), .val (.ref d), .unset, .unset] [(.int (0 : Int32)), (.ref d), (.int (0 : Int32)), (.ref b)]))
  refine Go.of (fun _ q => XS.iloadN X1.here hx rfl (hb hby d4_8) rfl q) ?_
  show Go _ _ _ _ _ _ _ (T1.setTop (mkF m 9 #[.val (.ref b), .val (.int (0 : Int32)), .val (.int (2 : Int32)), .val (.ref d), .unset, .unset] [(.int (2 : Int32)), (.int (0 : Int32)), (.ref d), (.int (0 : Int32)), (.ref b)]))
  refine Go.static X1 hx hZ (y := (⟨"java/lang/StringUTF16", "compress", "([CI[BII)I"⟩ : MethodName)) (argsL := [(.ref b), (.int (0 : Int32)), (.ref d), (.int (0 : Int32)), (.int (2 : Int32))]) hown (hw _ (List.mem_of_getElem? (i := 20) rfl)) (hw _ (List.mem_of_getElem? (i := 21) rfl)) (hw _ (List.mem_of_getElem? (i := 17) rfl)) (hw _ (List.mem_of_getElem? (i := 22) rfl)) (by decide) 0 e1 (rm5_s2 l Z a0 hw b d kb gb k1 (fun _ => (0 : Int32)) h1 n0 Zs A_b A_d ne_b_d g_d hg) (by decide) (by decide) (by decide) (by decide) (g := (mkF m 9 #[.val (.ref b), .val (.int (0 : Int32)), .val (.int (2 : Int32)), .val (.ref d), .unset, .unset] [(.int (2 : Int32)), (.int (0 : Int32)), (.ref d), (.int (0 : Int32)), (.ref b)])) rfl (by rw [hml]; rfl) (rest := []) (lenOf pd0 rfl) rfl (by show 2 * 0 + _ ≤ _; exact Nat.le_of_eq rfl) (hb hby d4_9) ?_
  intro T2 v2 L2 X2 q2
  obtain ⟨rfl, Nq2, K2, f2_0⟩ := q2
  have N2 := Fr.app N0 Nq2
  have Zs := Nat.le_trans Zs K2.1
  have Kp := Kp.trans K2 (allS (P := fun x => x ∈ [] ∨ h0.size ≤ x) (Or.inr sz_d) all0)
  have A_b := A_b.keep K2 (ninS ne_b_d nin0)
  have E_d := E_d.keep K2
  have A_d := f2_0
  show Go _ _ _ _ _ _ _ (T2.setTop (mkF m 12 #[.val (.ref b), .val (.int (0 : Int32)), .val (.int (2 : Int32)), .val (.ref d), .unset, .unset] [(.int (2 : Int32))]))
  refine Go.of (fun _ q => XS.istore X2.here hx rfl (hb hby d4_12) rfl (l' := #[.val (.ref b), .val (.int (0 : Int32)), .val (.int (2 : Int32)), .val (.ref d), .val (.int (2 : Int32)), .unset]) rfl q) ?_
  show Go _ _ _ _ _ _ _ (T2.setTop (mkF m 14 #[.val (.ref b), .val (.int (0 : Int32)), .val (.int (2 : Int32)), .val (.ref d), .val (.int (2 : Int32)), .unset] []))
  refine Go.of (fun _ q => XS.iload X2.here hx rfl (hb hby d4_14) rfl q) ?_
  show Go _ _ _ _ _ _ _ (T2.setTop (mkF m 16 #[.val (.ref b), .val (.int (0 : Int32)), .val (.int (2 : Int32)), .val (.ref d), .val (.int (2 : Int32)), .unset] [(.int (2 : Int32))]))
  refine Go.of (fun _ q => XS.iloadN X2.here hx rfl (hb hby d4_16) rfl q) ?_
  show Go _ _ _ _ _ _ _ (T2.setTop (mkF m 17 #[.val (.ref b), .val (.int (0 : Int32)), .val (.int (2 : Int32)), .val (.ref d), .val (.int (2 : Int32)), .unset] [(.int (2 : Int32)), (.int (2 : Int32))]))
  refine Go.of (fun _ q => XS.icmpYes X2.here hx rfl (pc0 := 17) (pc' := 57) rfl (hb hby d4_17) rfl (teq rfl).1 (by decide) (by decide) q) ?_
  show Go _ _ _ _ _ _ _ (T2.setTop (mkF m 57 #[.val (.ref b), .val (.int (0 : Int32)), .val (.int (2 : Int32)), .val (.ref d), .val (.int (2 : Int32)), .unset] []))
  refine Go.of (fun _ q => XS.aloadN X2.here hx rfl (hb hby d4_57) rfl rfl q) ?_
  show Go _ _ _ _ _ _ _ (T2.setTop (mkF m 58 #[.val (.ref b), .val (.int (0 : Int32)), .val (.int (2 : Int32)), .val (.ref d), .val (.int (2 : Int32)), .unset] [(.ref d)]))
  refine Go.retA X2 hx hlk hret rfl rfl (hb hby d4_58) (by decide) (by decide) ?_
  exact ⟨d, k1, rfl, N2, Kp, sz_d, A_d⟩
theorem ef_6_s2 (m : MethodId) (d : Addr) : entryFrame m #[(.ref d), (.int (2 : Int32))] 2 = mkF m 0 #[.val (.ref d), .val (.int (2 : Int32))] [] := by first | (simp [entryFrame, mkF, argsToLocals, Value.category]; done) | rfl
def Q6_s2 (Z : State) (d : Addr) (kd : ClassId) (gd : Nat → Int32) (h0 : Heap) (n0 : Nat) (v : Option Value) (h : Heap) (L : List Loc) : Prop := v = some (.int (0 : Int32)) ∧ Fr n0 L ∧ h = h0
set_option maxRecDepth 65536 in
set_option maxHeartbeats 40000000 in
theorem rm6_s2 (l : Launch) (Z : State) (a0 : Array Value) (hw : ∀ d ∈ tables_1, d.before a0 Z = true) (d : Addr) (kd : ClassId) (gd : Nat → Int32) (h0 : Heap) (n0 : Nat) (Zs : n0 ≤ h0.size) (A_d : AF Z h0 d kd .byte 2 (fun i => .int (gd i))) :
    Con l Z (⟨"java/lang/StringUTF16", "coderFromArrayLen", "([BI)B"⟩ : MethodName) jdk_52_method_15_code 2 (some .byte) ({ frames := 0, cells := 0, slots := 0, locals := 0 } : Room) #[(.ref d), (.int (2 : Int32))] h0 (Q6_s2 Z d kd gd h0 n0) := by
  refine Con.intro (plainFor_of_name pn0) (fun m => ef_6_s2 m d) ?_
  intro p e s m below meth c s₁ hx hby hml0 hZ hown hnm hret hlk X0 e0
  have hml : c.maxLocals = 2 := hml0
  have N0 := Fr.nil n0
  have Kp : Keep h0 h0 [] := Keep.refl h0 _
  show Go _ _ _ _ _ _ _ (s₁.setTop (mkF m 0 #[.val (.ref d), .val (.int (2 : Int32))] []))
  refine Go.of (fun _ q => XS.iloadN X0.here hx rfl (hb hby d6_0) rfl q) ?_
  show Go _ _ _ _ _ _ _ (s₁.setTop (mkF m 1 #[.val (.ref d), .val (.int (2 : Int32))] [(.int (2 : Int32))]))
  refine Go.of (fun _ q => XS.aloadN X0.here hx rfl (hb hby d6_1) rfl rfl q) ?_
  show Go _ _ _ _ _ _ _ (s₁.setTop (mkF m 2 #[.val (.ref d), .val (.int (2 : Int32))] [(.ref d), (.int (2 : Int32))]))
  refine Go.of (fun _ q => AF.length A_d X0 hx hZ e0 rfl (g := (mkF m 2 #[.val (.ref d), .val (.int (2 : Int32))] [(.ref d), (.int (2 : Int32))])) rfl rfl (hb hby d6_2) q) ?_
  show Go _ _ _ _ _ _ _ (s₁.setTop (mkF m 3 #[.val (.ref d), .val (.int (2 : Int32))] [(.int (2 : Int32)), (.int (2 : Int32))]))
  refine Go.of (fun _ q => XS.isub X0.here hx rfl (hb hby d6_3) rfl q) ?_
  show Go _ _ _ _ _ _ _ (s₁.setTop (mkF m 4 #[.val (.ref d), .val (.int (2 : Int32))] [(.int (0 : Int32))]))
  refine Go.of (fun _ q => XS.bipush X0.here hx rfl (hb hby d6_4) q) ?_
  show Go _ _ _ _ _ _ _ (s₁.setTop (mkF m 6 #[.val (.ref d), .val (.int (2 : Int32))] [(.int (31 : Int32)), (.int (0 : Int32))]))
  refine Go.of (fun _ q => XS.iushr X0.here hx rfl (hb hby d6_6) rfl q) ?_
  show Go _ _ _ _ _ _ _ (s₁.setTop (mkF m 7 #[.val (.ref d), .val (.int (2 : Int32))] [(.int (0 : Int32))]))
  refine Go.of (fun _ q => XS.i2b X0.here hx rfl (hb hby d6_7) rfl q) ?_
  show Go _ _ _ _ _ _ _ (s₁.setTop (mkF m 8 #[.val (.ref d), .val (.int (2 : Int32))] [(.int (0 : Int32))]))
  refine Go.retN X0 hx hlk (t := .byte) hret (by simp) (hb hby d6_8) rfl (by decide) (by decide) ?_
  rw [e0]
  exact ⟨rfl, N0, rfl⟩
theorem ef_2_s2 (m : MethodId) (a : Addr) (b : Addr) : entryFrame m #[(.ref a), (.ref b), (.int (0 : Int32)), (.int (2 : Int32)), .null] 6 = mkF m 0 #[.val (.ref a), .val (.ref b), .val (.int (0 : Int32)), .val (.int (2 : Int32)), .val .null, .unset] [] := by first | (simp [entryFrame, mkF, argsToLocals, Value.category]; done) | rfl
def Q2_s2 (Z : State) (a : Addr) (b : Addr) (kb : ClassId) (gb : Nat → Int32) (u1 : Value) (u2 : Int32) (cs : Int32) (h0 : Heap) (n0 : Nat) (v : Option Value) (h : Heap) (L : List Loc) : Prop := ∃ d : Addr, ∃ kd : ClassId, v = none ∧ Fr n0 L ∧ Keep h0 h [a] ∧ h0.size ≤ d ∧ Exa Z h a "java/lang/String" ∧ Fld Z h a "java/lang/String" "value" "[B" (.ref d) ∧ Fld Z h a "java/lang/String" "coder" "B" (.int (0 : Int32)) ∧ AF Z h d kd .byte 2 (fun i => .int ((fun i => own_by (gb i)) i))
set_option maxRecDepth 65536 in
set_option maxHeartbeats 40000000 in
theorem rm2_s2 (l : Launch) (Z : State) (a0 : Array Value) (hw : ∀ d ∈ tables_1, d.before a0 Z = true) (a : Addr) (b : Addr) (kb : ClassId) (gb : Nat → Int32) (u1 : Value) (u2 : Int32) (cs : Int32) (h0 : Heap) (n0 : Nat) (Zs : n0 ≤ h0.size) (Od : Old Z n0 h0) (E_a : Exa Z h0 a "java/lang/String") (F_a_value : Fld Z h0 a "java/lang/String" "value" "[B" u1) (F_a_coder : Fld Z h0 a "java/lang/String" "coder" "B" (.int u2)) (g_a : n0 ≤ a) (A_b : AF Z h0 b kb .char 2 (fun i => .int (gb i))) (ne_b_a : b ≠ a) (hg : ∀ i, i < 2 → ¬ (255 : Int32) < gb i) (Scs : Sta Z Z.heap "java/lang/String" "COMPACT_STRINGS" "Z" (.int cs)) (hcs : ¬ cs = (0 : Int32)) :
    Con l Z (⟨"java/lang/String", "<init>", "([CIILjava/lang/Void;)V"⟩ : MethodName) jdk_42_method_149_code 6 none ({ frames := 2, cells := 1, slots := 2, locals := 35 } : Room) #[(.ref a), (.ref b), (.int (0 : Int32)), (.int (2 : Int32)), .null] h0 (Q2_s2 Z a b kb gb u1 u2 cs h0 n0) := by
  refine Con.intro (plainFor_of_name pn1) (fun m => ef_2_s2 m a b) ?_
  intro p e s m below meth c s₁ hx hby hml0 hZ hown hnm hret hlk X0 e0
  have hml : c.maxLocals = 6 := hml0
  have N0 := Fr.nil n0
  have Kp : Keep h0 h0 [a] := Keep.refl h0 _
  show Go _ _ _ _ _ _ _ (s₁.setTop (mkF m 0 #[.val (.ref a), .val (.ref b), .val (.int (0 : Int32)), .val (.int (2 : Int32)), .val .null, .unset] []))
  refine Go.of (fun _ q => XS.aloadN X0.here hx rfl (hb hby d2_0) rfl rfl q) ?_
  show Go _ _ _ _ _ _ _ (s₁.setTop (mkF m 1 #[.val (.ref a), .val (.ref b), .val (.int (0 : Int32)), .val (.int (2 : Int32)), .val .null, .unset] [(.ref a)]))
  obtain ⟨T1, X1, e1, st1⟩ := initO X0 hx hZ hown (hw _ (List.mem_of_getElem? (i := 11) rfl)) (hw _ (List.mem_of_getElem? (i := 12) rfl)) (hw _ (List.mem_of_getElem? (i := 13) rfl)) e0 (g := (mkF m 1 #[.val (.ref a), .val (.ref b), .val (.int (0 : Int32)), .val (.int (2 : Int32)), .val .null, .unset] [(.ref a)])) rfl (by rw [hml]; rfl) rfl (hb hby d2_1) (by decide) (W := 0) (by show 2 * 0 + _ ≤ _; exact Nat.le_of_eq rfl) (by decide)
  refine Go.of st1 ?_
  show Go _ _ _ _ _ _ _ (T1.setTop (mkF m 4 #[.val (.ref a), .val (.ref b), .val (.int (0 : Int32)), .val (.int (2 : Int32)), .val .null, .unset] []))
  refine Go.of (fun _ q => XS.iloadN X1.here hx rfl (hb hby d2_4) rfl q) ?_
  show Go _ _ _ _ _ _ _ (T1.setTop (mkF m 5 #[.val (.ref a), .val (.ref b), .val (.int (0 : Int32)), .val (.int (2 : Int32)), .val .null, .unset] [(.int (2 : Int32))]))
  refine Go.of (fun _ q => XS.ifYes X1.here hx rfl (pc0 := 5) (pc' := 27) rfl (hb hby d2_5) rfl ((if0 _ _).trans (feq (by decide)).2) (by decide) (by decide) q) ?_
  show Go _ _ _ _ _ _ _ (T1.setTop (mkF m 27 #[.val (.ref a), .val (.ref b), .val (.int (0 : Int32)), .val (.int (2 : Int32)), .val .null, .unset] []))
  obtain ⟨T2, X2, e2, st2⟩ := getS2 X1 hx hZ hown (host := "") (Or.inl (hw _ (List.mem_of_getElem? (i := 14) rfl))) Via.refl e1 (Sta.ext Od.2 Scs) (g := (mkF m 27 #[.val (.ref a), .val (.ref b), .val (.int (0 : Int32)), .val (.int (2 : Int32)), .val .null, .unset] [])) rfl (hb hby d2_27)
  refine Go.of st2 ?_
  show Go _ _ _ _ _ _ _ (T2.setTop (mkF m 30 #[.val (.ref a), .val (.ref b), .val (.int (0 : Int32)), .val (.int (2 : Int32)), .val .null, .unset] [(.int cs)]))
  refine Go.of (fun _ q => XS.ifNo X2.here hx rfl (hb hby d2_30) rfl ((if0 _ _).trans (feq hcs).1) q) ?_
  show Go _ _ _ _ _ _ _ (T2.setTop (mkF m 33 #[.val (.ref a), .val (.ref b), .val (.int (0 : Int32)), .val (.int (2 : Int32)), .val .null, .unset] []))
  refine Go.of (fun _ q => XS.aloadN X2.here hx rfl (hb hby d2_33) rfl rfl q) ?_
  show Go _ _ _ _ _ _ _ (T2.setTop (mkF m 34 #[.val (.ref a), .val (.ref b), .val (.int (0 : Int32)), .val (.int (2 : Int32)), .val .null, .unset] [(.ref b)]))
  refine Go.of (fun _ q => XS.iloadN X2.here hx rfl (hb hby d2_34) rfl q) ?_
  show Go _ _ _ _ _ _ _ (T2.setTop (mkF m 35 #[.val (.ref a), .val (.ref b), .val (.int (0 : Int32)), .val (.int (2 : Int32)), .val .null, .unset] [(.int (0 : Int32)), (.ref b)]))
  refine Go.of (fun _ q => XS.iloadN X2.here hx rfl (hb hby d2_35) rfl q) ?_
  show Go _ _ _ _ _ _ _ (T2.setTop (mkF m 36 #[.val (.ref a), .val (.ref b), .val (.int (0 : Int32)), .val (.int (2 : Int32)), .val .null, .unset] [(.int (2 : Int32)), (.int (0 : Int32)), (.ref b)]))
  refine Go.static X2 hx hZ (y := (⟨"java/lang/StringUTF16", "compress", "([CII)[B"⟩ : MethodName)) (argsL := [(.ref b), (.int (0 : Int32)), (.int (2 : Int32))]) hown (hw _ (List.mem_of_getElem? (i := 15) rfl)) (hw _ (List.mem_of_getElem? (i := 16) rfl)) (hw _ (List.mem_of_getElem? (i := 17) rfl)) (hw _ (List.mem_of_getElem? (i := 18) rfl)) (by decide) 0 e2 (rm4_s2 l Z a0 hw b kb gb h0 n0 Zs A_b hg) (by decide) (by decide) (by decide) (by decide) (g := (mkF m 36 #[.val (.ref a), .val (.ref b), .val (.int (0 : Int32)), .val (.int (2 : Int32)), .val .null, .unset] [(.int (2 : Int32)), (.int (0 : Int32)), (.ref b)])) rfl (by rw [hml]; rfl) (rest := []) (lenOf pd1 rfl) rfl (by show 2 * 0 + _ ≤ _; exact Nat.le_of_eq rfl) (hb hby d2_36) ?_
  intro T3 v3 L3 X3 q3
  obtain ⟨d, kd, rfl, Nq3, K3, f3_0, f3_1⟩ := q3
  have N3 := Fr.app N0 Nq3
  have g_d : n0 ≤ d := Nat.le_trans Zs f3_0
  have sz_d : h0.size ≤ d := Nat.le_trans Kp.1 f3_0
  have ne_a_d : a ≠ d := Nat.ne_of_lt (Nat.lt_of_lt_of_le E_a.lt f3_0)
  have ne_b_d : b ≠ d := Nat.ne_of_lt (Nat.lt_of_lt_of_le A_b.lt f3_0)
  have Zs := Nat.le_trans Zs K3.1
  have Kp := Kp.trans K3 all0
  have Od := Od.keep K3 all0
  have E_a := E_a.keep K3
  have F_a_value := F_a_value.keep K3 nin0
  have F_a_coder := F_a_coder.keep K3 nin0
  have A_b := A_b.keep K3 nin0
  have A_d := f3_1
  show Go _ _ _ _ _ _ _ (T3.setTop (mkF m 39 #[.val (.ref a), .val (.ref b), .val (.int (0 : Int32)), .val (.int (2 : Int32)), .val .null, .unset] [(.ref d)]))
  refine Go.of (fun _ q => XS.astore X3.here hx rfl (hb hby d2_39) rfl rfl (l' := #[.val (.ref a), .val (.ref b), .val (.int (0 : Int32)), .val (.int (2 : Int32)), .val .null, .val (.ref d)]) rfl q) ?_
  show Go _ _ _ _ _ _ _ (T3.setTop (mkF m 41 #[.val (.ref a), .val (.ref b), .val (.int (0 : Int32)), .val (.int (2 : Int32)), .val .null, .val (.ref d)] []))
  refine Go.of (fun _ q => XS.aloadN X3.here hx rfl (hb hby d2_41) rfl rfl q) ?_
  show Go _ _ _ _ _ _ _ (T3.setTop (mkF m 42 #[.val (.ref a), .val (.ref b), .val (.int (0 : Int32)), .val (.int (2 : Int32)), .val .null, .val (.ref d)] [(.ref a)]))
  refine Go.of (fun _ q => XS.aload X3.here hx rfl (hb hby d2_42) rfl rfl q) ?_
  show Go _ _ _ _ _ _ _ (T3.setTop (mkF m 44 #[.val (.ref a), .val (.ref b), .val (.int (0 : Int32)), .val (.int (2 : Int32)), .val .null, .val (.ref d)] [(.ref d), (.ref a)]))
  refine Go.of (fun _ q => XS.iloadN X3.here hx rfl (hb hby d2_44) rfl q) ?_
  show Go _ _ _ _ _ _ _ (T3.setTop (mkF m 45 #[.val (.ref a), .val (.ref b), .val (.int (0 : Int32)), .val (.int (2 : Int32)), .val .null, .val (.ref d)] [(.int (2 : Int32)), (.ref d), (.ref a)]))
  refine Go.static X3 hx hZ (y := (⟨"java/lang/StringUTF16", "coderFromArrayLen", "([BI)B"⟩ : MethodName)) (argsL := [(.ref d), (.int (2 : Int32))]) hown (hw _ (List.mem_of_getElem? (i := 23) rfl)) (hw _ (List.mem_of_getElem? (i := 24) rfl)) (hw _ (List.mem_of_getElem? (i := 17) rfl)) (hw _ (List.mem_of_getElem? (i := 25) rfl)) (by decide) 1 rfl (rm6_s2 l Z a0 hw d kd (fun i => own_by (gb i)) T3.heap n0 Zs A_d) (by decide) (by decide) (by decide) (by decide) (g := (mkF m 45 #[.val (.ref a), .val (.ref b), .val (.int (0 : Int32)), .val (.int (2 : Int32)), .val .null, .val (.ref d)] [(.int (2 : Int32)), (.ref d), (.ref a)])) rfl (by rw [hml]; rfl) (rest := [(.ref a)]) (lenOf pd2 rfl) rfl (by show 2 * 0 + _ ≤ _; exact Nat.le_of_eq rfl) (hb hby d2_45) ?_
  intro T4 v4 L4 X4 q4
  obtain ⟨rfl, Nq4, e4⟩ := q4
  have N4 := Fr.app N3 Nq4
  show Go _ _ _ _ _ _ _ (T4.setTop (mkF m 48 #[.val (.ref a), .val (.ref b), .val (.int (0 : Int32)), .val (.int (2 : Int32)), .val .null, .val (.ref d)] [(.int (0 : Int32)), (.ref a)]))
  obtain ⟨T5, h5, X5, e5, W5, st5⟩ := putFN X4 hx hZ hown (hw _ (List.mem_of_getElem? (i := 26) rfl)) Via.refl e4 F_a_coder E_a (Or.inr ⟨(hw _ (List.mem_of_getElem? (i := 27) rfl)), rfl, hnm⟩) (hw _ (List.mem_of_getElem? (i := 2) rfl)) (ty := .byte) (v' := .int (0 : Int32)) (by decide) rfl rfl (g := (mkF m 48 #[.val (.ref a), .val (.ref b), .val (.int (0 : Int32)), .val (.int (2 : Int32)), .val .null, .val (.ref d)] [(.int (0 : Int32)), (.ref a)])) rfl rfl (hb hby d2_48)
  refine Go.of st5 ?_
  have Zs := Nat.le_trans Zs (Nat.le_of_eq W5.size.symm)
  have Kp := Kp.wr W5 (Or.inl (List.mem_of_getElem? (i := 0) rfl))
  have Od := Od.wr W5 g_a
  have E_a := E_a.wr W5
  have F_a_value := F_a_value.other W5 (Or.inr (slot_ne (Or.inr (hw _ (List.mem_of_getElem? (i := 29) rfl))) (Or.inr (hw _ (List.mem_of_getElem? (i := 27) rfl))) (by decide) (t := (.array .byte)) (t' := .byte) (by decide) (by decide)))
  have F_a_coder := F_a_coder.same W5
  have A_b := A_b.other W5 ne_b_a
  have A_d := A_d.other W5 (Ne.symm ne_a_d)
  have N5 := Fr.snoc X5 N4 g_a
  show Go _ _ _ _ _ _ _ (T5.setTop (mkF m 51 #[.val (.ref a), .val (.ref b), .val (.int (0 : Int32)), .val (.int (2 : Int32)), .val .null, .val (.ref d)] []))
  refine Go.of (fun _ q => XS.aloadN X5.here hx rfl (hb hby d2_51) rfl rfl q) ?_
  show Go _ _ _ _ _ _ _ (T5.setTop (mkF m 52 #[.val (.ref a), .val (.ref b), .val (.int (0 : Int32)), .val (.int (2 : Int32)), .val .null, .val (.ref d)] [(.ref a)]))
  refine Go.of (fun _ q => XS.aload X5.here hx rfl (hb hby d2_52) rfl rfl q) ?_
  show Go _ _ _ _ _ _ _ (T5.setTop (mkF m 54 #[.val (.ref a), .val (.ref b), .val (.int (0 : Int32)), .val (.int (2 : Int32)), .val .null, .val (.ref d)] [(.ref d), (.ref a)]))
  obtain ⟨T6, h6, X6, e6, W6, st6⟩ := putF X5 hx hZ hown (host := "") (Or.inl (hw _ (List.mem_of_getElem? (i := 28) rfl))) Via.refl e5 F_a_value E_a (Or.inr ⟨(hw _ (List.mem_of_getElem? (i := 29) rfl)), rfl, hnm⟩) (hw _ (List.mem_of_getElem? (i := 2) rfl)) (ty := (.array .byte)) (by decide) rfl rfl (g := (mkF m 54 #[.val (.ref a), .val (.ref b), .val (.int (0 : Int32)), .val (.int (2 : Int32)), .val .null, .val (.ref d)] [(.ref d), (.ref a)])) rfl rfl (hb hby d2_54)
  refine Go.of st6 ?_
  have Zs := Nat.le_trans Zs (Nat.le_of_eq W6.size.symm)
  have Kp := Kp.wr W6 (Or.inl (List.mem_of_getElem? (i := 0) rfl))
  have Od := Od.wr W6 g_a
  have E_a := E_a.wr W6
  have F_a_value := F_a_value.same W6
  have F_a_coder := F_a_coder.other W6 (Or.inr (slot_ne (Or.inr (hw _ (List.mem_of_getElem? (i := 27) rfl))) (Or.inr (hw _ (List.mem_of_getElem? (i := 29) rfl))) (by decide) (t := .byte) (t' := (.array .byte)) (by decide) (by decide)))
  have A_b := A_b.other W6 ne_b_a
  have A_d := A_d.other W6 (Ne.symm ne_a_d)
  have N6 := Fr.snoc X6 N5 g_a
  show Go _ _ _ _ _ _ _ (T6.setTop (mkF m 57 #[.val (.ref a), .val (.ref b), .val (.int (0 : Int32)), .val (.int (2 : Int32)), .val .null, .val (.ref d)] []))
  refine Go.retV X6 hx hlk hret (hb hby d2_57) (by decide) (by decide) ?_
  rw [e6]
  exact ⟨d, kd, rfl, N6, Kp, sz_d, E_a, F_a_value, F_a_coder, A_d⟩
theorem ef_1_s2 (m : MethodId) (a : Addr) (b : Addr) : entryFrame m #[(.ref a), (.ref b)] 2 = mkF m 0 #[.val (.ref a), .val (.ref b)] [] := by first | (simp [entryFrame, mkF, argsToLocals, Value.category]; done) | rfl
def Q1_s2 (Z : State) (a : Addr) (b : Addr) (kb : ClassId) (gb : Nat → Int32) (u1 : Value) (u2 : Int32) (cs : Int32) (h0 : Heap) (n0 : Nat) (v : Option Value) (h : Heap) (L : List Loc) : Prop := ∃ d : Addr, ∃ kd : ClassId, v = none ∧ Fr n0 L ∧ Keep h0 h [a] ∧ h0.size ≤ d ∧ Exa Z h a "java/lang/String" ∧ Fld Z h a "java/lang/String" "value" "[B" (.ref d) ∧ Fld Z h a "java/lang/String" "coder" "B" (.int (0 : Int32)) ∧ AF Z h d kd .byte 2 (fun i => .int ((fun i => own_by (gb i)) i))
set_option maxRecDepth 65536 in
set_option maxHeartbeats 40000000 in
theorem rm1_s2 (l : Launch) (Z : State) (a0 : Array Value) (hw : ∀ d ∈ tables_1, d.before a0 Z = true) (a : Addr) (b : Addr) (kb : ClassId) (gb : Nat → Int32) (u1 : Value) (u2 : Int32) (cs : Int32) (h0 : Heap) (n0 : Nat) (Zs : n0 ≤ h0.size) (Od : Old Z n0 h0) (E_a : Exa Z h0 a "java/lang/String") (F_a_value : Fld Z h0 a "java/lang/String" "value" "[B" u1) (F_a_coder : Fld Z h0 a "java/lang/String" "coder" "B" (.int u2)) (g_a : n0 ≤ a) (A_b : AF Z h0 b kb .char 2 (fun i => .int (gb i))) (ne_b_a : b ≠ a) (hg : ∀ i, i < 2 → ¬ (255 : Int32) < gb i) (Scs : Sta Z Z.heap "java/lang/String" "COMPACT_STRINGS" "Z" (.int cs)) (hcs : ¬ cs = (0 : Int32)) :
    Con l Z (⟨"java/lang/String", "<init>", "([C)V"⟩ : MethodName) jdk_42_method_3_code 2 none ({ frames := 3, cells := 1, slots := 2, locals := 52 } : Room) #[(.ref a), (.ref b)] h0 (Q1_s2 Z a b kb gb u1 u2 cs h0 n0) := by
  refine Con.intro (plainFor_of_name pn1) (fun m => ef_1_s2 m a b) ?_
  intro p e s m below meth c s₁ hx hby hml0 hZ hown hnm hret hlk X0 e0
  have hml : c.maxLocals = 2 := hml0
  have N0 := Fr.nil n0
  have Kp : Keep h0 h0 [a] := Keep.refl h0 _
  show Go _ _ _ _ _ _ _ (s₁.setTop (mkF m 0 #[.val (.ref a), .val (.ref b)] []))
  refine Go.of (fun _ q => XS.aloadN X0.here hx rfl (hb hby d1_0) rfl rfl q) ?_
  show Go _ _ _ _ _ _ _ (s₁.setTop (mkF m 1 #[.val (.ref a), .val (.ref b)] [(.ref a)]))
  refine Go.of (fun _ q => XS.aloadN X0.here hx rfl (hb hby d1_1) rfl rfl q) ?_
  show Go _ _ _ _ _ _ _ (s₁.setTop (mkF m 2 #[.val (.ref a), .val (.ref b)] [(.ref b), (.ref a)]))
  refine Go.of (fun _ q => XS.iconst X0.here hx rfl (hb hby d1_2) q) ?_
  show Go _ _ _ _ _ _ _ (s₁.setTop (mkF m 3 #[.val (.ref a), .val (.ref b)] [(.int (0 : Int32)), (.ref b), (.ref a)]))
  refine Go.of (fun _ q => XS.aloadN X0.here hx rfl (hb hby d1_3) rfl rfl q) ?_
  show Go _ _ _ _ _ _ _ (s₁.setTop (mkF m 4 #[.val (.ref a), .val (.ref b)] [(.ref b), (.int (0 : Int32)), (.ref b), (.ref a)]))
  refine Go.of (fun _ q => AF.length A_b X0 hx hZ e0 rfl (g := (mkF m 4 #[.val (.ref a), .val (.ref b)] [(.ref b), (.int (0 : Int32)), (.ref b), (.ref a)])) rfl rfl (hb hby d1_4) q) ?_
  show Go _ _ _ _ _ _ _ (s₁.setTop (mkF m 5 #[.val (.ref a), .val (.ref b)] [(.int (2 : Int32)), (.int (0 : Int32)), (.ref b), (.ref a)]))
  refine Go.of (fun _ q => XS.aconstNull X0.here hx rfl (hb hby d1_5) q) ?_
  show Go _ _ _ _ _ _ _ (s₁.setTop (mkF m 6 #[.val (.ref a), .val (.ref b)] [.null, (.int (2 : Int32)), (.int (0 : Int32)), (.ref b), (.ref a)]))
  refine Go.special X0 hx hZ (y := (⟨"java/lang/String", "<init>", "([CIILjava/lang/Void;)V"⟩ : MethodName)) (a := a) (argsL := [(.ref b), (.int (0 : Int32)), (.int (2 : Int32)), .null]) rfl hown (hw _ (List.mem_of_getElem? (i := 7) rfl)) (hw _ (List.mem_of_getElem? (i := 8) rfl)) (hw _ (List.mem_of_getElem? (i := 3) rfl)) (hw _ (List.mem_of_getElem? (i := 10) rfl)) (by decide) 0 e0 (rm2_s2 l Z a0 hw a b kb gb u1 u2 cs h0 n0 Zs Od E_a F_a_value F_a_coder g_a A_b ne_b_a hg Scs hcs) (by decide) (by decide) (by decide) (by decide) (g := (mkF m 6 #[.val (.ref a), .val (.ref b)] [.null, (.int (2 : Int32)), (.int (0 : Int32)), (.ref b), (.ref a)])) rfl (by rw [hml]; rfl) (rest := []) (lenOf pd3 rfl) rfl (by show 2 * 0 + _ ≤ _; exact Nat.le_of_eq rfl) (hb hby d1_6) ?_
  intro T1 v1 L1 X1 q1
  obtain ⟨d, kd, rfl, Nq1, K1, f1_0, f1_1, f1_2, f1_3, f1_4⟩ := q1
  have N1 := Fr.app N0 Nq1
  have g_d : n0 ≤ d := Nat.le_trans Zs f1_0
  have sz_d : h0.size ≤ d := Nat.le_trans Kp.1 f1_0
  have ne_a_d : a ≠ d := Nat.ne_of_lt (Nat.lt_of_lt_of_le E_a.lt f1_0)
  have ne_b_d : b ≠ d := Nat.ne_of_lt (Nat.lt_of_lt_of_le A_b.lt f1_0)
  have Zs := Nat.le_trans Zs K1.1
  have Kp := Kp.trans K1 (allS (P := fun x => x ∈ [a] ∨ h0.size ≤ x) (Or.inl (List.mem_of_getElem? (i := 0) rfl)) all0)
  have Od := Od.keep K1 (allS (P := fun x => n0 ≤ x) g_a all0)
  have E_a := E_a.keep K1
  have A_b := A_b.keep K1 (ninS ne_b_a nin0)
  have F_a_value := f1_2
  have F_a_coder := f1_3
  have A_d := f1_4
  show Go _ _ _ _ _ _ _ (T1.setTop (mkF m 9 #[.val (.ref a), .val (.ref b)] []))
  refine Go.retV X1 hx hlk hret (hb hby d1_9) (by decide) (by decide) ?_
  exact ⟨d, kd, rfl, N1, Kp, sz_d, E_a, F_a_value, F_a_coder, A_d⟩
theorem d8_0 : decode jdk_30_method_1_code 0 = .ok (.aload_n 0, 1) := by decide +kernel
theorem d8_1 : decode jdk_30_method_1_code 1 = .ok (.invokespecial 1, 3) := by decide +kernel
theorem d8_4 : decode jdk_30_method_1_code 4 = .ok (.return_, 1) := by decide +kernel
theorem pn2 : plainName "java/lang/Record" = true := by first | (simp [plainName, overriddenIn]; done) | decide +kernel
theorem ef_8 (m : MethodId) (a : Addr) : entryFrame m #[(.ref a)] 1 = mkF m 0 #[.val (.ref a)] [] := by first | (simp [entryFrame, mkF, argsToLocals, Value.category]; done) | rfl
def Q8 (Z : State) (a : Addr) (h0 : Heap) (n0 : Nat) (v : Option Value) (h : Heap) (L : List Loc) : Prop := v = none ∧ Fr n0 L ∧ h = h0
set_option maxRecDepth 65536 in
set_option maxHeartbeats 40000000 in
theorem rm8 (l : Launch) (Z : State) (a0 : Array Value) (hw : ∀ d ∈ tables_1, d.before a0 Z = true) (a : Addr) (h0 : Heap) (n0 : Nat) (Zs : n0 ≤ h0.size)  :
    Con l Z (⟨"java/lang/Record", "<init>", "()V"⟩ : MethodName) jdk_30_method_1_code 1 none ({ frames := 1, cells := 0, slots := 0, locals := 12 } : Room) #[(.ref a)] h0 (Q8 Z a h0 n0) := by
  refine Con.intro (plainFor_of_name pn2) (fun m => ef_8 m a) ?_
  intro p e s m below meth c s₁ hx hby hml0 hZ hown hnm hret hlk X0 e0
  have hml : c.maxLocals = 1 := hml0
  have N0 := Fr.nil n0
  have Kp : Keep h0 h0 [] := Keep.refl h0 _
  show Go _ _ _ _ _ _ _ (s₁.setTop (mkF m 0 #[.val (.ref a)] []))
  refine Go.of (fun _ q => XS.aloadN X0.here hx rfl (hb hby d8_0) rfl rfl q) ?_
  show Go _ _ _ _ _ _ _ (s₁.setTop (mkF m 1 #[.val (.ref a)] [(.ref a)]))
  obtain ⟨T1, X1, e1, st1⟩ := initO X0 hx hZ hown (hw _ (List.mem_of_getElem? (i := 41) rfl)) (hw _ (List.mem_of_getElem? (i := 12) rfl)) (hw _ (List.mem_of_getElem? (i := 13) rfl)) e0 (g := (mkF m 1 #[.val (.ref a)] [(.ref a)])) rfl (by rw [hml]; rfl) rfl (hb hby d8_1) (by decide) (W := 0) (by show 2 * 0 + _ ≤ _; exact Nat.le_of_eq rfl) (by decide)
  refine Go.of st1 ?_
  show Go _ _ _ _ _ _ _ (T1.setTop (mkF m 4 #[.val (.ref a)] []))
  refine Go.retV X1 hx hlk hret (hb hby d8_4) (by decide) (by decide) ?_
  rw [e1]
  exact ⟨rfl, N0, rfl⟩
theorem pd4 : parseMethodDescriptor "()V" = some ⟨[], none⟩ := by decide +kernel
theorem d7_0 : decode prog_13_method_1_code 0 = .ok (.aload_n 0, 1) := by decide +kernel
theorem d7_1 : decode prog_13_method_1_code 1 = .ok (.invokespecial 1, 3) := by decide +kernel
theorem d7_4 : decode prog_13_method_1_code 4 = .ok (.aload_n 0, 1) := by decide +kernel
theorem d7_5 : decode prog_13_method_1_code 5 = .ok (.aload_n 1, 1) := by decide +kernel
theorem d7_6 : decode prog_13_method_1_code 6 = .ok (.putfield 7, 3) := by decide +kernel
theorem d7_9 : decode prog_13_method_1_code 9 = .ok (.aload_n 0, 1) := by decide +kernel
theorem d7_10 : decode prog_13_method_1_code 10 = .ok (.iload_n 2, 1) := by decide +kernel
theorem d7_11 : decode prog_13_method_1_code 11 = .ok (.putfield 13, 3) := by decide +kernel
theorem d7_14 : decode prog_13_method_1_code 14 = .ok (.return_, 1) := by decide +kernel
theorem pn3 : plainName "com/example/lane/lane/config/HostPort" = true := by first | (simp [plainName, overriddenIn]; done) | decide +kernel
theorem ef_7 (m : MethodId) (a : Addr) (b : Addr) (x1 : Int32) : entryFrame m #[(.ref a), (.ref b), (.int x1)] 3 = mkF m 0 #[.val (.ref a), .val (.ref b), .val (.int x1)] [] := by first | (simp [entryFrame, mkF, argsToLocals, Value.category]; done) | rfl
def Q7 (Z : State) (a : Addr) (b : Addr) (x1 : Int32) (u1 : Value) (u2 : Int32) (h0 : Heap) (n0 : Nat) (v : Option Value) (h : Heap) (L : List Loc) : Prop := v = none ∧ Fr n0 L ∧ Keep h0 h [a] ∧ Exa Z h a "com/example/lane/lane/config/HostPort"
set_option maxRecDepth 65536 in
set_option maxHeartbeats 40000000 in
theorem rm7 (l : Launch) (Z : State) (a0 : Array Value) (hw : ∀ d ∈ tables_1, d.before a0 Z = true) (a : Addr) (b : Addr) (x1 : Int32) (u1 : Value) (u2 : Int32) (h0 : Heap) (n0 : Nat) (Zs : n0 ≤ h0.size) (E_a : Exa Z h0 a "com/example/lane/lane/config/HostPort") (F_a_host : Fld Z h0 a "com/example/lane/lane/config/HostPort" "host" "Ljava/lang/String;" u1) (F_a_port : Fld Z h0 a "com/example/lane/lane/config/HostPort" "port" "I" (.int u2)) (g_a : n0 ≤ a) :
    Con l Z (⟨"com/example/lane/lane/config/HostPort", "<init>", "(Ljava/lang/String;I)V"⟩ : MethodName) prog_13_method_1_code 3 none ({ frames := 2, cells := 0, slots := 0, locals := 24 } : Room) #[(.ref a), (.ref b), (.int x1)] h0 (Q7 Z a b x1 u1 u2 h0 n0) := by
  refine Con.intro (plainFor_of_name pn3) (fun m => ef_7 m a b x1) ?_
  intro p e s m below meth c s₁ hx hby hml0 hZ hown hnm hret hlk X0 e0
  have hml : c.maxLocals = 3 := hml0
  have N0 := Fr.nil n0
  have Kp : Keep h0 h0 [a] := Keep.refl h0 _
  show Go _ _ _ _ _ _ _ (s₁.setTop (mkF m 0 #[.val (.ref a), .val (.ref b), .val (.int x1)] []))
  refine Go.of (fun _ q => XS.aloadN X0.here hx rfl (hb hby d7_0) rfl rfl q) ?_
  show Go _ _ _ _ _ _ _ (s₁.setTop (mkF m 1 #[.val (.ref a), .val (.ref b), .val (.int x1)] [(.ref a)]))
  refine Go.special X0 hx hZ (y := (⟨"java/lang/Record", "<init>", "()V"⟩ : MethodName)) (a := a) (argsL := []) rfl hown (hw _ (List.mem_of_getElem? (i := 36) rfl)) (hw _ (List.mem_of_getElem? (i := 37) rfl)) (hw _ (List.mem_of_getElem? (i := 39) rfl)) (hw _ (List.mem_of_getElem? (i := 40) rfl)) (by decide) 0 e0 (rm8 l Z a0 hw a h0 n0 Zs ) (by decide) (by decide) (by decide) (by decide) (g := (mkF m 1 #[.val (.ref a), .val (.ref b), .val (.int x1)] [(.ref a)])) rfl (by rw [hml]; rfl) (rest := []) (lenOf pd4 rfl) rfl (by show 2 * 0 + _ ≤ _; exact Nat.le_of_eq rfl) (hb hby d7_1) ?_
  intro T1 v1 L1 X1 q1
  obtain ⟨rfl, Nq1, e1⟩ := q1
  have N1 := Fr.app N0 Nq1
  show Go _ _ _ _ _ _ _ (T1.setTop (mkF m 4 #[.val (.ref a), .val (.ref b), .val (.int x1)] []))
  refine Go.of (fun _ q => XS.aloadN X1.here hx rfl (hb hby d7_4) rfl rfl q) ?_
  show Go _ _ _ _ _ _ _ (T1.setTop (mkF m 5 #[.val (.ref a), .val (.ref b), .val (.int x1)] [(.ref a)]))
  refine Go.of (fun _ q => XS.aloadN X1.here hx rfl (hb hby d7_5) rfl rfl q) ?_
  show Go _ _ _ _ _ _ _ (T1.setTop (mkF m 6 #[.val (.ref a), .val (.ref b), .val (.int x1)] [(.ref b), (.ref a)]))
  obtain ⟨T2, h2, X2, e2, W2, st2⟩ := putF X1 hx hZ hown (host := "") (Or.inl (hw _ (List.mem_of_getElem? (i := 42) rfl))) Via.refl e1 F_a_host E_a (Or.inr ⟨(hw _ (List.mem_of_getElem? (i := 43) rfl)), rfl, hnm⟩) (hw _ (List.mem_of_getElem? (i := 31) rfl)) (ty := (.object "java/lang/String")) (by decide) rfl rfl (g := (mkF m 6 #[.val (.ref a), .val (.ref b), .val (.int x1)] [(.ref b), (.ref a)])) rfl rfl (hb hby d7_6)
  refine Go.of st2 ?_
  have Zs := Nat.le_trans Zs (Nat.le_of_eq W2.size.symm)
  have Kp := Kp.wr W2 (Or.inl (List.mem_of_getElem? (i := 0) rfl))
  have E_a := E_a.wr W2
  have F_a_host := F_a_host.same W2
  have F_a_port := F_a_port.other W2 (Or.inr (slot_ne (Or.inr (hw _ (List.mem_of_getElem? (i := 45) rfl))) (Or.inr (hw _ (List.mem_of_getElem? (i := 43) rfl))) (by decide) (t := .int) (t' := (.object "java/lang/String")) (by decide) (by decide)))
  have N2 := Fr.snoc X2 N1 g_a
  show Go _ _ _ _ _ _ _ (T2.setTop (mkF m 9 #[.val (.ref a), .val (.ref b), .val (.int x1)] []))
  refine Go.of (fun _ q => XS.aloadN X2.here hx rfl (hb hby d7_9) rfl rfl q) ?_
  show Go _ _ _ _ _ _ _ (T2.setTop (mkF m 10 #[.val (.ref a), .val (.ref b), .val (.int x1)] [(.ref a)]))
  refine Go.of (fun _ q => XS.iloadN X2.here hx rfl (hb hby d7_10) rfl q) ?_
  show Go _ _ _ _ _ _ _ (T2.setTop (mkF m 11 #[.val (.ref a), .val (.ref b), .val (.int x1)] [(.int x1), (.ref a)]))
  obtain ⟨T3, h3, X3, e3, W3, st3⟩ := putF X2 hx hZ hown (host := "") (Or.inl (hw _ (List.mem_of_getElem? (i := 44) rfl))) Via.refl e2 F_a_port E_a (Or.inr ⟨(hw _ (List.mem_of_getElem? (i := 45) rfl)), rfl, hnm⟩) (hw _ (List.mem_of_getElem? (i := 31) rfl)) (ty := .int) (by decide) rfl rfl (g := (mkF m 11 #[.val (.ref a), .val (.ref b), .val (.int x1)] [(.int x1), (.ref a)])) rfl rfl (hb hby d7_11)
  refine Go.of st3 ?_
  have Zs := Nat.le_trans Zs (Nat.le_of_eq W3.size.symm)
  have Kp := Kp.wr W3 (Or.inl (List.mem_of_getElem? (i := 0) rfl))
  have E_a := E_a.wr W3
  have F_a_host := F_a_host.other W3 (Or.inr (slot_ne (Or.inr (hw _ (List.mem_of_getElem? (i := 43) rfl))) (Or.inr (hw _ (List.mem_of_getElem? (i := 45) rfl))) (by decide) (t := (.object "java/lang/String")) (t' := .int) (by decide) (by decide)))
  have F_a_port := F_a_port.same W3
  have N3 := Fr.snoc X3 N2 g_a
  show Go _ _ _ _ _ _ _ (T3.setTop (mkF m 14 #[.val (.ref a), .val (.ref b), .val (.int x1)] []))
  refine Go.retV X3 hx hlk hret (hb hby d7_14) (by decide) (by decide) ?_
  rw [e3]
  exact ⟨rfl, N3, Kp, E_a⟩
theorem d9_0 : decode prog_1_method_1_code 0 = .ok (.aload_n 0, 1) := by decide +kernel
theorem d9_1 : decode prog_1_method_1_code 1 = .ok (.invokespecial 1, 3) := by decide +kernel
theorem d9_4 : decode prog_1_method_1_code 4 = .ok (.aload_n 0, 1) := by decide +kernel
theorem d9_5 : decode prog_1_method_1_code 5 = .ok (.aload_n 1, 1) := by decide +kernel
theorem d9_6 : decode prog_1_method_1_code 6 = .ok (.putfield 7, 3) := by decide +kernel
theorem d9_9 : decode prog_1_method_1_code 9 = .ok (.aload_n 0, 1) := by decide +kernel
theorem d9_10 : decode prog_1_method_1_code 10 = .ok (.lload_n 2, 1) := by decide +kernel
theorem d9_11 : decode prog_1_method_1_code 11 = .ok (.putfield 13, 3) := by decide +kernel
theorem d9_14 : decode prog_1_method_1_code 14 = .ok (.return_, 1) := by decide +kernel
theorem pn4 : plainName "com/example/lane/lane/AccessRecord" = true := by first | (simp [plainName, overriddenIn]; done) | decide +kernel
theorem ef_9 (m : MethodId) (a : Addr) (b : Addr) (y1 : Int64) : entryFrame m #[(.ref a), (.ref b), (.long y1)] 4 = mkF m 0 #[.val (.ref a), .val (.ref b), .val (.long y1), .second] [] := by first | (simp [entryFrame, mkF, argsToLocals, Value.category]; done) | rfl
def Q9 (Z : State) (a : Addr) (b : Addr) (y1 : Int64) (u1 : Value) (u2 : Int64) (u3 : Value) (u4 : Value) (u5 : Int32) (h0 : Heap) (n0 : Nat) (v : Option Value) (h : Heap) (L : List Loc) : Prop := v = none ∧ Fr n0 L ∧ Keep h0 h [a] ∧ Exa Z h a "com/example/lane/lane/AccessRecord" ∧ Fld Z h a "com/example/lane/lane/AccessRecord" "upstream" "Ljava/lang/String;" u3 ∧ Fld Z h a "com/example/lane/lane/AccessRecord" "node" "Lcom/example/lane/lane/config/HostPort;" u4 ∧ Fld Z h a "com/example/lane/lane/AccessRecord" "attempts" "I" (.int u5) ∧ Fld Z h a "com/example/lane/lane/AccessRecord" "status" "I" (.int (0 : Int32)) ∧ Fld Z h a "com/example/lane/lane/AccessRecord" "route" "Ljava/lang/String;" .null
set_option maxRecDepth 65536 in
set_option maxHeartbeats 40000000 in
theorem rm9 (l : Launch) (Z : State) (a0 : Array Value) (hw : ∀ d ∈ tables_1, d.before a0 Z = true) (a : Addr) (b : Addr) (y1 : Int64) (u1 : Value) (u2 : Int64) (u3 : Value) (u4 : Value) (u5 : Int32) (h0 : Heap) (n0 : Nat) (Zs : n0 ≤ h0.size) (E_a : Exa Z h0 a "com/example/lane/lane/AccessRecord") (F_a_client : Fld Z h0 a "com/example/lane/lane/AccessRecord" "client" "Ljava/lang/String;" u1) (F_a_start : Fld Z h0 a "com/example/lane/lane/AccessRecord" "start" "J" (.long u2)) (F_a_upstream : Fld Z h0 a "com/example/lane/lane/AccessRecord" "upstream" "Ljava/lang/String;" u3) (F_a_node : Fld Z h0 a "com/example/lane/lane/AccessRecord" "node" "Lcom/example/lane/lane/config/HostPort;" u4) (F_a_attempts : Fld Z h0 a "com/example/lane/lane/AccessRecord" "attempts" "I" (.int u5)) (F_a_status : Fld Z h0 a "com/example/lane/lane/AccessRecord" "status" "I" (.int (0 : Int32))) (F_a_route : Fld Z h0 a "com/example/lane/lane/AccessRecord" "route" "Ljava/lang/String;" .null) (g_a : n0 ≤ a) :
    Con l Z (⟨"com/example/lane/lane/AccessRecord", "<init>", "(Ljava/lang/String;J)V"⟩ : MethodName) prog_1_method_1_code 4 none ({ frames := 1, cells := 0, slots := 0, locals := 12 } : Room) #[(.ref a), (.ref b), (.long y1)] h0 (Q9 Z a b y1 u1 u2 u3 u4 u5 h0 n0) := by
  refine Con.intro (plainFor_of_name pn4) (fun m => ef_9 m a b y1) ?_
  intro p e s m below meth c s₁ hx hby hml0 hZ hown hnm hret hlk X0 e0
  have hml : c.maxLocals = 4 := hml0
  have N0 := Fr.nil n0
  have Kp : Keep h0 h0 [a] := Keep.refl h0 _
  show Go _ _ _ _ _ _ _ (s₁.setTop (mkF m 0 #[.val (.ref a), .val (.ref b), .val (.long y1), .second] []))
  refine Go.of (fun _ q => XS.aloadN X0.here hx rfl (hb hby d9_0) rfl rfl q) ?_
  show Go _ _ _ _ _ _ _ (s₁.setTop (mkF m 1 #[.val (.ref a), .val (.ref b), .val (.long y1), .second] [(.ref a)]))
  obtain ⟨T1, X1, e1, st1⟩ := initO X0 hx hZ hown (hw _ (List.mem_of_getElem? (i := 52) rfl)) (hw _ (List.mem_of_getElem? (i := 12) rfl)) (hw _ (List.mem_of_getElem? (i := 13) rfl)) e0 (g := (mkF m 1 #[.val (.ref a), .val (.ref b), .val (.long y1), .second] [(.ref a)])) rfl (by rw [hml]; rfl) rfl (hb hby d9_1) (by decide) (W := 0) (by show 2 * 0 + _ ≤ _; exact Nat.le_of_eq rfl) (by decide)
  refine Go.of st1 ?_
  show Go _ _ _ _ _ _ _ (T1.setTop (mkF m 4 #[.val (.ref a), .val (.ref b), .val (.long y1), .second] []))
  refine Go.of (fun _ q => XS.aloadN X1.here hx rfl (hb hby d9_4) rfl rfl q) ?_
  show Go _ _ _ _ _ _ _ (T1.setTop (mkF m 5 #[.val (.ref a), .val (.ref b), .val (.long y1), .second] [(.ref a)]))
  refine Go.of (fun _ q => XS.aloadN X1.here hx rfl (hb hby d9_5) rfl rfl q) ?_
  show Go _ _ _ _ _ _ _ (T1.setTop (mkF m 6 #[.val (.ref a), .val (.ref b), .val (.long y1), .second] [(.ref b), (.ref a)]))
  obtain ⟨T2, h2, X2, e2, W2, st2⟩ := putF X1 hx hZ hown (host := "") (Or.inl (hw _ (List.mem_of_getElem? (i := 53) rfl))) Via.refl e1 F_a_client E_a (Or.inr ⟨(hw _ (List.mem_of_getElem? (i := 54) rfl)), rfl, hnm⟩) (hw _ (List.mem_of_getElem? (i := 47) rfl)) (ty := (.object "java/lang/String")) (by decide) rfl rfl (g := (mkF m 6 #[.val (.ref a), .val (.ref b), .val (.long y1), .second] [(.ref b), (.ref a)])) rfl rfl (hb hby d9_6)
  refine Go.of st2 ?_
  have Zs := Nat.le_trans Zs (Nat.le_of_eq W2.size.symm)
  have Kp := Kp.wr W2 (Or.inl (List.mem_of_getElem? (i := 0) rfl))
  have E_a := E_a.wr W2
  have F_a_client := F_a_client.same W2
  have F_a_start := F_a_start.other W2 (Or.inr (slot_ne (Or.inr (hw _ (List.mem_of_getElem? (i := 56) rfl))) (Or.inr (hw _ (List.mem_of_getElem? (i := 54) rfl))) (by decide) (t := .long) (t' := (.object "java/lang/String")) (by decide) (by decide)))
  have F_a_upstream := F_a_upstream.other W2 (Or.inr (slot_ne (Or.inl (hw _ (List.mem_of_getElem? (i := 70) rfl))) (Or.inr (hw _ (List.mem_of_getElem? (i := 54) rfl))) (by decide) (t := (.object "java/lang/String")) (t' := (.object "java/lang/String")) (by decide) (by decide)))
  have F_a_node := F_a_node.other W2 (Or.inr (slot_ne (Or.inl (hw _ (List.mem_of_getElem? (i := 77) rfl))) (Or.inr (hw _ (List.mem_of_getElem? (i := 54) rfl))) (by decide) (t := (.object "com/example/lane/lane/config/HostPort")) (t' := (.object "java/lang/String")) (by decide) (by decide)))
  have F_a_attempts := F_a_attempts.other W2 (Or.inr (slot_ne (Or.inl (hw _ (List.mem_of_getElem? (i := 63) rfl))) (Or.inr (hw _ (List.mem_of_getElem? (i := 54) rfl))) (by decide) (t := .int) (t' := (.object "java/lang/String")) (by decide) (by decide)))
  have F_a_status := F_a_status.other W2 (Or.inr (slot_ne (Or.inl (hw _ (List.mem_of_getElem? (i := 84) rfl))) (Or.inr (hw _ (List.mem_of_getElem? (i := 54) rfl))) (by decide) (t := .int) (t' := (.object "java/lang/String")) (by decide) (by decide)))
  have F_a_route := F_a_route.other W2 (Or.inr (slot_ne (Or.inl (hw _ (List.mem_of_getElem? (i := 91) rfl))) (Or.inr (hw _ (List.mem_of_getElem? (i := 54) rfl))) (by decide) (t := (.object "java/lang/String")) (t' := (.object "java/lang/String")) (by decide) (by decide)))
  have N2 := Fr.snoc X2 N0 g_a
  show Go _ _ _ _ _ _ _ (T2.setTop (mkF m 9 #[.val (.ref a), .val (.ref b), .val (.long y1), .second] []))
  refine Go.of (fun _ q => XS.aloadN X2.here hx rfl (hb hby d9_9) rfl rfl q) ?_
  show Go _ _ _ _ _ _ _ (T2.setTop (mkF m 10 #[.val (.ref a), .val (.ref b), .val (.long y1), .second] [(.ref a)]))
  refine Go.of (fun _ q => XS.lloadN X2.here hx rfl (hb hby d9_10) rfl q) ?_
  show Go _ _ _ _ _ _ _ (T2.setTop (mkF m 11 #[.val (.ref a), .val (.ref b), .val (.long y1), .second] [(.long y1), (.ref a)]))
  obtain ⟨T3, h3, X3, e3, W3, st3⟩ := putF X2 hx hZ hown (host := "") (Or.inl (hw _ (List.mem_of_getElem? (i := 55) rfl))) Via.refl e2 F_a_start E_a (Or.inr ⟨(hw _ (List.mem_of_getElem? (i := 56) rfl)), rfl, hnm⟩) (hw _ (List.mem_of_getElem? (i := 47) rfl)) (ty := .long) (by decide) rfl rfl (g := (mkF m 11 #[.val (.ref a), .val (.ref b), .val (.long y1), .second] [(.long y1), (.ref a)])) rfl rfl (hb hby d9_11)
  refine Go.of st3 ?_
  have Zs := Nat.le_trans Zs (Nat.le_of_eq W3.size.symm)
  have Kp := Kp.wr W3 (Or.inl (List.mem_of_getElem? (i := 0) rfl))
  have E_a := E_a.wr W3
  have F_a_client := F_a_client.other W3 (Or.inr (slot_ne (Or.inr (hw _ (List.mem_of_getElem? (i := 54) rfl))) (Or.inr (hw _ (List.mem_of_getElem? (i := 56) rfl))) (by decide) (t := (.object "java/lang/String")) (t' := .long) (by decide) (by decide)))
  have F_a_start := F_a_start.same W3
  have F_a_upstream := F_a_upstream.other W3 (Or.inr (slot_ne (Or.inl (hw _ (List.mem_of_getElem? (i := 70) rfl))) (Or.inr (hw _ (List.mem_of_getElem? (i := 56) rfl))) (by decide) (t := (.object "java/lang/String")) (t' := .long) (by decide) (by decide)))
  have F_a_node := F_a_node.other W3 (Or.inr (slot_ne (Or.inl (hw _ (List.mem_of_getElem? (i := 77) rfl))) (Or.inr (hw _ (List.mem_of_getElem? (i := 56) rfl))) (by decide) (t := (.object "com/example/lane/lane/config/HostPort")) (t' := .long) (by decide) (by decide)))
  have F_a_attempts := F_a_attempts.other W3 (Or.inr (slot_ne (Or.inl (hw _ (List.mem_of_getElem? (i := 63) rfl))) (Or.inr (hw _ (List.mem_of_getElem? (i := 56) rfl))) (by decide) (t := .int) (t' := .long) (by decide) (by decide)))
  have F_a_status := F_a_status.other W3 (Or.inr (slot_ne (Or.inl (hw _ (List.mem_of_getElem? (i := 84) rfl))) (Or.inr (hw _ (List.mem_of_getElem? (i := 56) rfl))) (by decide) (t := .int) (t' := .long) (by decide) (by decide)))
  have F_a_route := F_a_route.other W3 (Or.inr (slot_ne (Or.inl (hw _ (List.mem_of_getElem? (i := 91) rfl))) (Or.inr (hw _ (List.mem_of_getElem? (i := 56) rfl))) (by decide) (t := (.object "java/lang/String")) (t' := .long) (by decide) (by decide)))
  have N3 := Fr.snoc X3 N2 g_a
  show Go _ _ _ _ _ _ _ (T3.setTop (mkF m 14 #[.val (.ref a), .val (.ref b), .val (.long y1), .second] []))
  refine Go.retV X3 hx hlk hret (hb hby d9_14) (by decide) (by decide) ?_
  rw [e3]
  exact ⟨rfl, N3, Kp, E_a, F_a_upstream, F_a_node, F_a_attempts, F_a_status, F_a_route⟩
theorem d15_0 : decode prog_1_method_8_code 0 = .ok (.aload_n 0, 1) := by decide +kernel
theorem d15_1 : decode prog_1_method_8_code 1 = .ok (.aload_n 1, 1) := by decide +kernel
theorem d15_2 : decode prog_1_method_8_code 2 = .ok (.putfield 48, 3) := by decide +kernel
theorem d15_5 : decode prog_1_method_8_code 5 = .ok (.aload_n 0, 1) := by decide +kernel
theorem d15_6 : decode prog_1_method_8_code 6 = .ok (.aload_n 2, 1) := by decide +kernel
theorem d15_7 : decode prog_1_method_8_code 7 = .ok (.putfield 51, 3) := by decide +kernel
theorem d15_10 : decode prog_1_method_8_code 10 = .ok (.aload_n 0, 1) := by decide +kernel
theorem d15_11 : decode prog_1_method_8_code 11 = .ok (.dup, 1) := by decide +kernel
theorem d15_12 : decode prog_1_method_8_code 12 = .ok (.getfield 55, 3) := by decide +kernel
theorem d15_15 : decode prog_1_method_8_code 15 = .ok (.iconst 1, 1) := by decide +kernel
theorem d15_16 : decode prog_1_method_8_code 16 = .ok (.iadd, 1) := by decide +kernel
theorem d15_17 : decode prog_1_method_8_code 17 = .ok (.putfield 55, 3) := by decide +kernel
theorem d15_20 : decode prog_1_method_8_code 20 = .ok (.return_, 1) := by decide +kernel
theorem ef_15 (m : MethodId) (a : Addr) (v1 : Value) (v2 : Value) (rv1 : v1.isRef = true) (rv2 : v2.isRef = true) : entryFrame m #[(.ref a), v1, v2] 3 = mkF m 0 #[.val (.ref a), .val v1, .val v2] [] := by rcases ref_cases rv1 with rfl | ⟨_, rfl⟩ <;> rcases ref_cases rv2 with rfl | ⟨_, rfl⟩ <;> (first | (simp [entryFrame, mkF, argsToLocals, Value.category]; done) | rfl)
def Q15 (Z : State) (a : Addr) (v1 : Value) (rv1 : v1.isRef = true) (v2 : Value) (rv2 : v2.isRef = true) (u3 : Value) (u4 : Value) (u5 : Int32) (h0 : Heap) (n0 : Nat) (v : Option Value) (h : Heap) (L : List Loc) : Prop := v = none ∧ Fr n0 L ∧ Keep h0 h [a] ∧ Exa Z h a "com/example/lane/lane/AccessRecord" ∧ Fld Z h a "com/example/lane/lane/AccessRecord" "upstream" "Ljava/lang/String;" v1 ∧ Fld Z h a "com/example/lane/lane/AccessRecord" "node" "Lcom/example/lane/lane/config/HostPort;" v2 ∧ Fld Z h a "com/example/lane/lane/AccessRecord" "attempts" "I" (.int (u5 + (1 : Int32))) ∧ Fld Z h a "com/example/lane/lane/AccessRecord" "status" "I" (.int (0 : Int32)) ∧ Fld Z h a "com/example/lane/lane/AccessRecord" "route" "Ljava/lang/String;" .null
set_option maxRecDepth 65536 in
set_option maxHeartbeats 40000000 in
theorem rm15 (l : Launch) (Z : State) (a0 : Array Value) (hw : ∀ d ∈ tables_1, d.before a0 Z = true) (a : Addr) (v1 : Value) (rv1 : v1.isRef = true) (v2 : Value) (rv2 : v2.isRef = true) (u3 : Value) (u4 : Value) (u5 : Int32) (h0 : Heap) (n0 : Nat) (Zs : n0 ≤ h0.size) (E_a : Exa Z h0 a "com/example/lane/lane/AccessRecord") (F_a_upstream : Fld Z h0 a "com/example/lane/lane/AccessRecord" "upstream" "Ljava/lang/String;" u3) (F_a_node : Fld Z h0 a "com/example/lane/lane/AccessRecord" "node" "Lcom/example/lane/lane/config/HostPort;" u4) (F_a_attempts : Fld Z h0 a "com/example/lane/lane/AccessRecord" "attempts" "I" (.int u5)) (F_a_status : Fld Z h0 a "com/example/lane/lane/AccessRecord" "status" "I" (.int (0 : Int32))) (F_a_route : Fld Z h0 a "com/example/lane/lane/AccessRecord" "route" "Ljava/lang/String;" .null) (g_a : n0 ≤ a) :
    Con l Z (⟨"com/example/lane/lane/AccessRecord", "tried", "(Ljava/lang/String;Lcom/example/lane/lane/config/HostPort;)V"⟩ : MethodName) prog_1_method_8_code 3 none ({ frames := 0, cells := 0, slots := 0, locals := 0 } : Room) #[(.ref a), v1, v2] h0 (Q15 Z a v1 rv1 v2 rv2 u3 u4 u5 h0 n0) := by
  refine Con.intro (plainFor_of_name pn4) (fun m => ef_15 m a v1 v2 rv1 rv2) ?_
  intro p e s m below meth c s₁ hx hby hml0 hZ hown hnm hret hlk X0 e0
  have hml : c.maxLocals = 3 := hml0
  have N0 := Fr.nil n0
  have Kp : Keep h0 h0 [a] := Keep.refl h0 _
  show Go _ _ _ _ _ _ _ (s₁.setTop (mkF m 0 #[.val (.ref a), .val v1, .val v2] []))
  refine Go.of (fun _ q => XS.aloadN X0.here hx rfl (hb hby d15_0) rfl rfl q) ?_
  show Go _ _ _ _ _ _ _ (s₁.setTop (mkF m 1 #[.val (.ref a), .val v1, .val v2] [(.ref a)]))
  refine Go.of (fun _ q => XS.aloadN X0.here hx rfl (hb hby d15_1) rfl rv1 q) ?_
  show Go _ _ _ _ _ _ _ (s₁.setTop (mkF m 2 #[.val (.ref a), .val v1, .val v2] [v1, (.ref a)]))
  obtain ⟨T1, h1, X1, e1, W1, st1⟩ := putF X0 hx hZ hown (host := "") (Or.inl (hw _ (List.mem_of_getElem? (i := 69) rfl))) Via.refl e0 F_a_upstream E_a (Or.inl (hw _ (List.mem_of_getElem? (i := 70) rfl))) (hw _ (List.mem_of_getElem? (i := 47) rfl)) (ty := (.object "java/lang/String")) (by decide) (by rcases ref_cases rv1 with rfl | ⟨_, rfl⟩ <;> rfl) (by rcases ref_cases rv1 with rfl | ⟨_, rfl⟩ <;> rfl) (g := (mkF m 2 #[.val (.ref a), .val v1, .val v2] [v1, (.ref a)])) rfl rfl (hb hby d15_2)
  refine Go.of st1 ?_
  have Zs := Nat.le_trans Zs (Nat.le_of_eq W1.size.symm)
  have Kp := Kp.wr W1 (Or.inl (List.mem_of_getElem? (i := 0) rfl))
  have E_a := E_a.wr W1
  have F_a_upstream := F_a_upstream.same W1
  have F_a_node := F_a_node.other W1 (Or.inr (slot_ne (Or.inl (hw _ (List.mem_of_getElem? (i := 77) rfl))) (Or.inl (hw _ (List.mem_of_getElem? (i := 70) rfl))) (by decide) (t := (.object "com/example/lane/lane/config/HostPort")) (t' := (.object "java/lang/String")) (by decide) (by decide)))
  have F_a_attempts := F_a_attempts.other W1 (Or.inr (slot_ne (Or.inl (hw _ (List.mem_of_getElem? (i := 63) rfl))) (Or.inl (hw _ (List.mem_of_getElem? (i := 70) rfl))) (by decide) (t := .int) (t' := (.object "java/lang/String")) (by decide) (by decide)))
  have F_a_status := F_a_status.other W1 (Or.inr (slot_ne (Or.inl (hw _ (List.mem_of_getElem? (i := 84) rfl))) (Or.inl (hw _ (List.mem_of_getElem? (i := 70) rfl))) (by decide) (t := .int) (t' := (.object "java/lang/String")) (by decide) (by decide)))
  have F_a_route := F_a_route.other W1 (Or.inr (slot_ne (Or.inl (hw _ (List.mem_of_getElem? (i := 91) rfl))) (Or.inl (hw _ (List.mem_of_getElem? (i := 70) rfl))) (by decide) (t := (.object "java/lang/String")) (t' := (.object "java/lang/String")) (by decide) (by decide)))
  have N1 := Fr.snoc X1 N0 g_a
  show Go _ _ _ _ _ _ _ (T1.setTop (mkF m 5 #[.val (.ref a), .val v1, .val v2] []))
  refine Go.of (fun _ q => XS.aloadN X1.here hx rfl (hb hby d15_5) rfl rfl q) ?_
  show Go _ _ _ _ _ _ _ (T1.setTop (mkF m 6 #[.val (.ref a), .val v1, .val v2] [(.ref a)]))
  refine Go.of (fun _ q => XS.aloadN X1.here hx rfl (hb hby d15_6) rfl rv2 q) ?_
  show Go _ _ _ _ _ _ _ (T1.setTop (mkF m 7 #[.val (.ref a), .val v1, .val v2] [v2, (.ref a)]))
  obtain ⟨T2, h2, X2, e2, W2, st2⟩ := putF X1 hx hZ hown (host := "") (Or.inl (hw _ (List.mem_of_getElem? (i := 76) rfl))) Via.refl e1 F_a_node E_a (Or.inl (hw _ (List.mem_of_getElem? (i := 77) rfl))) (hw _ (List.mem_of_getElem? (i := 47) rfl)) (ty := (.object "com/example/lane/lane/config/HostPort")) (by decide) (by rcases ref_cases rv2 with rfl | ⟨_, rfl⟩ <;> rfl) (by rcases ref_cases rv2 with rfl | ⟨_, rfl⟩ <;> rfl) (g := (mkF m 7 #[.val (.ref a), .val v1, .val v2] [v2, (.ref a)])) rfl rfl (hb hby d15_7)
  refine Go.of st2 ?_
  have Zs := Nat.le_trans Zs (Nat.le_of_eq W2.size.symm)
  have Kp := Kp.wr W2 (Or.inl (List.mem_of_getElem? (i := 0) rfl))
  have E_a := E_a.wr W2
  have F_a_upstream := F_a_upstream.other W2 (Or.inr (slot_ne (Or.inl (hw _ (List.mem_of_getElem? (i := 70) rfl))) (Or.inl (hw _ (List.mem_of_getElem? (i := 77) rfl))) (by decide) (t := (.object "java/lang/String")) (t' := (.object "com/example/lane/lane/config/HostPort")) (by decide) (by decide)))
  have F_a_node := F_a_node.same W2
  have F_a_attempts := F_a_attempts.other W2 (Or.inr (slot_ne (Or.inl (hw _ (List.mem_of_getElem? (i := 63) rfl))) (Or.inl (hw _ (List.mem_of_getElem? (i := 77) rfl))) (by decide) (t := .int) (t' := (.object "com/example/lane/lane/config/HostPort")) (by decide) (by decide)))
  have F_a_status := F_a_status.other W2 (Or.inr (slot_ne (Or.inl (hw _ (List.mem_of_getElem? (i := 84) rfl))) (Or.inl (hw _ (List.mem_of_getElem? (i := 77) rfl))) (by decide) (t := .int) (t' := (.object "com/example/lane/lane/config/HostPort")) (by decide) (by decide)))
  have F_a_route := F_a_route.other W2 (Or.inr (slot_ne (Or.inl (hw _ (List.mem_of_getElem? (i := 91) rfl))) (Or.inl (hw _ (List.mem_of_getElem? (i := 77) rfl))) (by decide) (t := (.object "java/lang/String")) (t' := (.object "com/example/lane/lane/config/HostPort")) (by decide) (by decide)))
  have N2 := Fr.snoc X2 N1 g_a
  show Go _ _ _ _ _ _ _ (T2.setTop (mkF m 10 #[.val (.ref a), .val v1, .val v2] []))
  refine Go.of (fun _ q => XS.aloadN X2.here hx rfl (hb hby d15_10) rfl rfl q) ?_
  show Go _ _ _ _ _ _ _ (T2.setTop (mkF m 11 #[.val (.ref a), .val v1, .val v2] [(.ref a)]))
  refine Go.of (fun _ q => XS.dup X2.here hx rfl (hb hby d15_11) rfl rfl q) ?_
  show Go _ _ _ _ _ _ _ (T2.setTop (mkF m 12 #[.val (.ref a), .val v1, .val v2] [(.ref a), (.ref a)]))
  obtain ⟨T3, X3, e3, st3⟩ := getF X2 hx hZ hown (host := "") (Or.inl (hw _ (List.mem_of_getElem? (i := 62) rfl))) Via.refl e2 F_a_attempts (g := (mkF m 12 #[.val (.ref a), .val v1, .val v2] [(.ref a), (.ref a)])) rfl rfl (hb hby d15_12)
  refine Go.of st3 ?_
  show Go _ _ _ _ _ _ _ (T3.setTop (mkF m 15 #[.val (.ref a), .val v1, .val v2] [(.int u5), (.ref a)]))
  refine Go.of (fun _ q => XS.iconst X3.here hx rfl (hb hby d15_15) q) ?_
  show Go _ _ _ _ _ _ _ (T3.setTop (mkF m 16 #[.val (.ref a), .val v1, .val v2] [(.int (1 : Int32)), (.int u5), (.ref a)]))
  refine Go.of (fun _ q => XS.iadd X3.here hx rfl (hb hby d15_16) rfl q) ?_
  show Go _ _ _ _ _ _ _ (T3.setTop (mkF m 17 #[.val (.ref a), .val v1, .val v2] [(.int (u5 + (1 : Int32))), (.ref a)]))
  obtain ⟨T4, h4, X4, e4, W4, st4⟩ := putF X3 hx hZ hown (host := "") (Or.inl (hw _ (List.mem_of_getElem? (i := 62) rfl))) Via.refl e3 F_a_attempts E_a (Or.inl (hw _ (List.mem_of_getElem? (i := 63) rfl))) (hw _ (List.mem_of_getElem? (i := 47) rfl)) (ty := .int) (by decide) rfl rfl (g := (mkF m 17 #[.val (.ref a), .val v1, .val v2] [(.int (u5 + (1 : Int32))), (.ref a)])) rfl rfl (hb hby d15_17)
  refine Go.of st4 ?_
  have Zs := Nat.le_trans Zs (Nat.le_of_eq W4.size.symm)
  have Kp := Kp.wr W4 (Or.inl (List.mem_of_getElem? (i := 0) rfl))
  have E_a := E_a.wr W4
  have F_a_upstream := F_a_upstream.other W4 (Or.inr (slot_ne (Or.inl (hw _ (List.mem_of_getElem? (i := 70) rfl))) (Or.inl (hw _ (List.mem_of_getElem? (i := 63) rfl))) (by decide) (t := (.object "java/lang/String")) (t' := .int) (by decide) (by decide)))
  have F_a_node := F_a_node.other W4 (Or.inr (slot_ne (Or.inl (hw _ (List.mem_of_getElem? (i := 77) rfl))) (Or.inl (hw _ (List.mem_of_getElem? (i := 63) rfl))) (by decide) (t := (.object "com/example/lane/lane/config/HostPort")) (t' := .int) (by decide) (by decide)))
  have F_a_attempts := F_a_attempts.same W4
  have F_a_status := F_a_status.other W4 (Or.inr (slot_ne (Or.inl (hw _ (List.mem_of_getElem? (i := 84) rfl))) (Or.inl (hw _ (List.mem_of_getElem? (i := 63) rfl))) (by decide) (t := .int) (t' := .int) (by decide) (by decide)))
  have F_a_route := F_a_route.other W4 (Or.inr (slot_ne (Or.inl (hw _ (List.mem_of_getElem? (i := 91) rfl))) (Or.inl (hw _ (List.mem_of_getElem? (i := 63) rfl))) (by decide) (t := (.object "java/lang/String")) (t' := .int) (by decide) (by decide)))
  have N4 := Fr.snoc X4 N2 g_a
  show Go _ _ _ _ _ _ _ (T4.setTop (mkF m 20 #[.val (.ref a), .val v1, .val v2] []))
  refine Go.retV X4 hx hlk hret (hb hby d15_20) (by decide) (by decide) ?_
  rw [e4]
  exact ⟨rfl, N4, Kp, E_a, F_a_upstream, F_a_node, F_a_attempts, F_a_status, F_a_route⟩
theorem d10_0 : decode prog_1_method_24_code 0 = .ok (.aload_n 0, 1) := by decide +kernel
theorem d10_1 : decode prog_1_method_24_code 1 = .ok (.getfield 55, 3) := by decide +kernel
theorem d10_4 : decode prog_1_method_24_code 4 = .ok (.ireturn, 1) := by decide +kernel
theorem ef_10 (m : MethodId) (a : Addr) : entryFrame m #[(.ref a)] 1 = mkF m 0 #[.val (.ref a)] [] := by first | (simp [entryFrame, mkF, argsToLocals, Value.category]; done) | rfl
def Q10 (Z : State) (a : Addr) (u5 : Int32) (h0 : Heap) (n0 : Nat) (v : Option Value) (h : Heap) (L : List Loc) : Prop := v = some (.int u5) ∧ Fr n0 L ∧ h = h0
set_option maxRecDepth 65536 in
set_option maxHeartbeats 40000000 in
theorem rm10 (l : Launch) (Z : State) (a0 : Array Value) (hw : ∀ d ∈ tables_1, d.before a0 Z = true) (a : Addr) (u5 : Int32) (h0 : Heap) (n0 : Nat) (Zs : n0 ≤ h0.size) (F_a_attempts : Fld Z h0 a "com/example/lane/lane/AccessRecord" "attempts" "I" (.int u5)) :
    Con l Z (⟨"com/example/lane/lane/AccessRecord", "attempts", "()I"⟩ : MethodName) prog_1_method_24_code 1 (some .int) ({ frames := 0, cells := 0, slots := 0, locals := 0 } : Room) #[(.ref a)] h0 (Q10 Z a u5 h0 n0) := by
  refine Con.intro (plainFor_of_name pn4) (fun m => ef_10 m a) ?_
  intro p e s m below meth c s₁ hx hby hml0 hZ hown hnm hret hlk X0 e0
  have hml : c.maxLocals = 1 := hml0
  have N0 := Fr.nil n0
  have Kp : Keep h0 h0 [] := Keep.refl h0 _
  show Go _ _ _ _ _ _ _ (s₁.setTop (mkF m 0 #[.val (.ref a)] []))
  refine Go.of (fun _ q => XS.aloadN X0.here hx rfl (hb hby d10_0) rfl rfl q) ?_
  show Go _ _ _ _ _ _ _ (s₁.setTop (mkF m 1 #[.val (.ref a)] [(.ref a)]))
  obtain ⟨T1, X1, e1, st1⟩ := getF X0 hx hZ hown (host := "") (Or.inl (hw _ (List.mem_of_getElem? (i := 62) rfl))) Via.refl e0 F_a_attempts (g := (mkF m 1 #[.val (.ref a)] [(.ref a)])) rfl rfl (hb hby d10_1)
  refine Go.of st1 ?_
  show Go _ _ _ _ _ _ _ (T1.setTop (mkF m 4 #[.val (.ref a)] [(.int u5)]))
  refine Go.retI X1 hx hlk hret (hb hby d10_4) (by decide) (by decide) ?_
  rw [e1]
  exact ⟨rfl, N0, rfl⟩
theorem d11_0 : decode prog_1_method_22_code 0 = .ok (.aload_n 0, 1) := by decide +kernel
theorem d11_1 : decode prog_1_method_22_code 1 = .ok (.getfield 48, 3) := by decide +kernel
theorem d11_4 : decode prog_1_method_22_code 4 = .ok (.areturn, 1) := by decide +kernel
theorem ef_11 (m : MethodId) (a : Addr) : entryFrame m #[(.ref a)] 1 = mkF m 0 #[.val (.ref a)] [] := by first | (simp [entryFrame, mkF, argsToLocals, Value.category]; done) | rfl
def Q11 (Z : State) (a : Addr) (v1 : Value) (rv1 : v1.isRef = true) (h0 : Heap) (n0 : Nat) (v : Option Value) (h : Heap) (L : List Loc) : Prop := v = some v1 ∧ Fr n0 L ∧ h = h0
set_option maxRecDepth 65536 in
set_option maxHeartbeats 40000000 in
theorem rm11 (l : Launch) (Z : State) (a0 : Array Value) (hw : ∀ d ∈ tables_1, d.before a0 Z = true) (a : Addr) (v1 : Value) (rv1 : v1.isRef = true) (h0 : Heap) (n0 : Nat) (Zs : n0 ≤ h0.size) (F_a_upstream : Fld Z h0 a "com/example/lane/lane/AccessRecord" "upstream" "Ljava/lang/String;" v1) :
    Con l Z (⟨"com/example/lane/lane/AccessRecord", "upstream", "()Ljava/lang/String;"⟩ : MethodName) prog_1_method_22_code 1 (some (.object "java/lang/String")) ({ frames := 0, cells := 0, slots := 0, locals := 0 } : Room) #[(.ref a)] h0 (Q11 Z a v1 rv1 h0 n0) := by
  refine Con.intro (plainFor_of_name pn4) (fun m => ef_11 m a) ?_
  intro p e s m below meth c s₁ hx hby hml0 hZ hown hnm hret hlk X0 e0
  have hml : c.maxLocals = 1 := hml0
  have N0 := Fr.nil n0
  have Kp : Keep h0 h0 [] := Keep.refl h0 _
  show Go _ _ _ _ _ _ _ (s₁.setTop (mkF m 0 #[.val (.ref a)] []))
  refine Go.of (fun _ q => XS.aloadN X0.here hx rfl (hb hby d11_0) rfl rfl q) ?_
  show Go _ _ _ _ _ _ _ (s₁.setTop (mkF m 1 #[.val (.ref a)] [(.ref a)]))
  obtain ⟨T1, X1, e1, st1⟩ := getF X0 hx hZ hown (host := "") (Or.inl (hw _ (List.mem_of_getElem? (i := 69) rfl))) Via.refl e0 F_a_upstream (g := (mkF m 1 #[.val (.ref a)] [(.ref a)])) rfl rfl (hb hby d11_1)
  refine Go.of st1 ?_
  show Go _ _ _ _ _ _ _ (T1.setTop (mkF m 4 #[.val (.ref a)] [v1]))
  refine Go.retA X1 hx hlk hret rfl rv1 (hb hby d11_4) (by decide) (by decide) ?_
  rw [e1]
  exact ⟨rfl, N0, rfl⟩
theorem d12_0 : decode prog_1_method_23_code 0 = .ok (.aload_n 0, 1) := by decide +kernel
theorem d12_1 : decode prog_1_method_23_code 1 = .ok (.getfield 51, 3) := by decide +kernel
theorem d12_4 : decode prog_1_method_23_code 4 = .ok (.areturn, 1) := by decide +kernel
theorem ef_12 (m : MethodId) (a : Addr) : entryFrame m #[(.ref a)] 1 = mkF m 0 #[.val (.ref a)] [] := by first | (simp [entryFrame, mkF, argsToLocals, Value.category]; done) | rfl
def Q12 (Z : State) (a : Addr) (v1 : Value) (rv1 : v1.isRef = true) (h0 : Heap) (n0 : Nat) (v : Option Value) (h : Heap) (L : List Loc) : Prop := v = some v1 ∧ Fr n0 L ∧ h = h0
set_option maxRecDepth 65536 in
set_option maxHeartbeats 40000000 in
theorem rm12 (l : Launch) (Z : State) (a0 : Array Value) (hw : ∀ d ∈ tables_1, d.before a0 Z = true) (a : Addr) (v1 : Value) (rv1 : v1.isRef = true) (h0 : Heap) (n0 : Nat) (Zs : n0 ≤ h0.size) (F_a_node : Fld Z h0 a "com/example/lane/lane/AccessRecord" "node" "Lcom/example/lane/lane/config/HostPort;" v1) :
    Con l Z (⟨"com/example/lane/lane/AccessRecord", "node", "()Lcom/example/lane/lane/config/HostPort;"⟩ : MethodName) prog_1_method_23_code 1 (some (.object "com/example/lane/lane/config/HostPort")) ({ frames := 0, cells := 0, slots := 0, locals := 0 } : Room) #[(.ref a)] h0 (Q12 Z a v1 rv1 h0 n0) := by
  refine Con.intro (plainFor_of_name pn4) (fun m => ef_12 m a) ?_
  intro p e s m below meth c s₁ hx hby hml0 hZ hown hnm hret hlk X0 e0
  have hml : c.maxLocals = 1 := hml0
  have N0 := Fr.nil n0
  have Kp : Keep h0 h0 [] := Keep.refl h0 _
  show Go _ _ _ _ _ _ _ (s₁.setTop (mkF m 0 #[.val (.ref a)] []))
  refine Go.of (fun _ q => XS.aloadN X0.here hx rfl (hb hby d12_0) rfl rfl q) ?_
  show Go _ _ _ _ _ _ _ (s₁.setTop (mkF m 1 #[.val (.ref a)] [(.ref a)]))
  obtain ⟨T1, X1, e1, st1⟩ := getF X0 hx hZ hown (host := "") (Or.inl (hw _ (List.mem_of_getElem? (i := 76) rfl))) Via.refl e0 F_a_node (g := (mkF m 1 #[.val (.ref a)] [(.ref a)])) rfl rfl (hb hby d12_1)
  refine Go.of st1 ?_
  show Go _ _ _ _ _ _ _ (T1.setTop (mkF m 4 #[.val (.ref a)] [v1]))
  refine Go.retA X1 hx hlk hret rfl rv1 (hb hby d12_4) (by decide) (by decide) ?_
  rw [e1]
  exact ⟨rfl, N0, rfl⟩
theorem d13_0 : decode prog_1_method_18_code 0 = .ok (.aload_n 0, 1) := by decide +kernel
theorem d13_1 : decode prog_1_method_18_code 1 = .ok (.getfield 35, 3) := by decide +kernel
theorem d13_4 : decode prog_1_method_18_code 4 = .ok (.ifCond .ne 9, 3) := by decide +kernel
theorem d13_7 : decode prog_1_method_18_code 7 = .ok (.sipush 499, 3) := by decide +kernel
theorem d13_10 : decode prog_1_method_18_code 10 = .ok (.goto 7, 3) := by decide +kernel
theorem d13_17 : decode prog_1_method_18_code 17 = .ok (.ireturn, 1) := by decide +kernel
theorem ef_13 (m : MethodId) (a : Addr) : entryFrame m #[(.ref a)] 1 = mkF m 0 #[.val (.ref a)] [] := by first | (simp [entryFrame, mkF, argsToLocals, Value.category]; done) | rfl
def Q13 (Z : State) (a : Addr) (h0 : Heap) (n0 : Nat) (v : Option Value) (h : Heap) (L : List Loc) : Prop := v = some (.int (499 : Int32)) ∧ Fr n0 L ∧ h = h0
set_option maxRecDepth 65536 in
set_option maxHeartbeats 40000000 in
theorem rm13 (l : Launch) (Z : State) (a0 : Array Value) (hw : ∀ d ∈ tables_1, d.before a0 Z = true) (a : Addr) (h0 : Heap) (n0 : Nat) (Zs : n0 ≤ h0.size) (F_a_status : Fld Z h0 a "com/example/lane/lane/AccessRecord" "status" "I" (.int (0 : Int32))) :
    Con l Z (⟨"com/example/lane/lane/AccessRecord", "status", "()I"⟩ : MethodName) prog_1_method_18_code 1 (some .int) ({ frames := 0, cells := 0, slots := 0, locals := 0 } : Room) #[(.ref a)] h0 (Q13 Z a h0 n0) := by
  refine Con.intro (plainFor_of_name pn4) (fun m => ef_13 m a) ?_
  intro p e s m below meth c s₁ hx hby hml0 hZ hown hnm hret hlk X0 e0
  have hml : c.maxLocals = 1 := hml0
  have N0 := Fr.nil n0
  have Kp : Keep h0 h0 [] := Keep.refl h0 _
  show Go _ _ _ _ _ _ _ (s₁.setTop (mkF m 0 #[.val (.ref a)] []))
  refine Go.of (fun _ q => XS.aloadN X0.here hx rfl (hb hby d13_0) rfl rfl q) ?_
  show Go _ _ _ _ _ _ _ (s₁.setTop (mkF m 1 #[.val (.ref a)] [(.ref a)]))
  obtain ⟨T1, X1, e1, st1⟩ := getF X0 hx hZ hown (host := "") (Or.inl (hw _ (List.mem_of_getElem? (i := 83) rfl))) Via.refl e0 F_a_status (g := (mkF m 1 #[.val (.ref a)] [(.ref a)])) rfl rfl (hb hby d13_1)
  refine Go.of st1 ?_
  show Go _ _ _ _ _ _ _ (T1.setTop (mkF m 4 #[.val (.ref a)] [(.int (0 : Int32))]))
  refine Go.of (fun _ q => XS.ifNo X1.here hx rfl (hb hby d13_4) rfl ((if0 _ _).trans (teq rfl).2) q) ?_
  show Go _ _ _ _ _ _ _ (T1.setTop (mkF m 7 #[.val (.ref a)] []))
  refine Go.of (fun _ q => XS.sipush X1.here hx rfl (hb hby d13_7) q) ?_
  show Go _ _ _ _ _ _ _ (T1.setTop (mkF m 10 #[.val (.ref a)] [(.int (499 : Int32))]))
  refine Go.of (fun _ q => XS.goto X1.here hx rfl (pc0 := 10) (pc' := 17) rfl (hb hby d13_10) (by decide) (by decide) q) ?_
  show Go _ _ _ _ _ _ _ (T1.setTop (mkF m 17 #[.val (.ref a)] [(.int (499 : Int32))]))
  refine Go.retI X1 hx hlk hret (hb hby d13_17) (by decide) (by decide) ?_
  rw [e1]
  exact ⟨rfl, N0, rfl⟩
theorem d14_0 : decode prog_1_method_20_code 0 = .ok (.aload_n 0, 1) := by decide +kernel
theorem d14_1 : decode prog_1_method_20_code 1 = .ok (.getfield 42, 3) := by decide +kernel
theorem d14_4 : decode prog_1_method_20_code 4 = .ok (.areturn, 1) := by decide +kernel
theorem ef_14 (m : MethodId) (a : Addr) : entryFrame m #[(.ref a)] 1 = mkF m 0 #[.val (.ref a)] [] := by first | (simp [entryFrame, mkF, argsToLocals, Value.category]; done) | rfl
def Q14 (Z : State) (a : Addr) (h0 : Heap) (n0 : Nat) (v : Option Value) (h : Heap) (L : List Loc) : Prop := v = some .null ∧ Fr n0 L ∧ h = h0
set_option maxRecDepth 65536 in
set_option maxHeartbeats 40000000 in
theorem rm14 (l : Launch) (Z : State) (a0 : Array Value) (hw : ∀ d ∈ tables_1, d.before a0 Z = true) (a : Addr) (h0 : Heap) (n0 : Nat) (Zs : n0 ≤ h0.size) (F_a_route : Fld Z h0 a "com/example/lane/lane/AccessRecord" "route" "Ljava/lang/String;" .null) :
    Con l Z (⟨"com/example/lane/lane/AccessRecord", "route", "()Ljava/lang/String;"⟩ : MethodName) prog_1_method_20_code 1 (some (.object "java/lang/String")) ({ frames := 0, cells := 0, slots := 0, locals := 0 } : Room) #[(.ref a)] h0 (Q14 Z a h0 n0) := by
  refine Con.intro (plainFor_of_name pn4) (fun m => ef_14 m a) ?_
  intro p e s m below meth c s₁ hx hby hml0 hZ hown hnm hret hlk X0 e0
  have hml : c.maxLocals = 1 := hml0
  have N0 := Fr.nil n0
  have Kp : Keep h0 h0 [] := Keep.refl h0 _
  show Go _ _ _ _ _ _ _ (s₁.setTop (mkF m 0 #[.val (.ref a)] []))
  refine Go.of (fun _ q => XS.aloadN X0.here hx rfl (hb hby d14_0) rfl rfl q) ?_
  show Go _ _ _ _ _ _ _ (s₁.setTop (mkF m 1 #[.val (.ref a)] [(.ref a)]))
  obtain ⟨T1, X1, e1, st1⟩ := getF X0 hx hZ hown (host := "") (Or.inl (hw _ (List.mem_of_getElem? (i := 90) rfl))) Via.refl e0 F_a_route (g := (mkF m 1 #[.val (.ref a)] [(.ref a)])) rfl rfl (hb hby d14_1)
  refine Go.of st1 ?_
  show Go _ _ _ _ _ _ _ (T1.setTop (mkF m 4 #[.val (.ref a)] [.null]))
  refine Go.retA X1 hx hlk hret rfl rfl (hb hby d14_4) (by decide) (by decide) ?_
  rw [e1]
  exact ⟨rfl, N0, rfl⟩
theorem pd5 : parseMethodDescriptor "([C)V" = some ⟨[(.array .char)], none⟩ := by decide +kernel
theorem pd6 : parseMethodDescriptor "(Ljava/lang/String;I)V" = some ⟨[(.object "java/lang/String"), .int], none⟩ := by decide +kernel
theorem pd7 : parseMethodDescriptor "(Ljava/lang/String;J)V" = some ⟨[(.object "java/lang/String"), .long], none⟩ := by decide +kernel
theorem pd8 : parseMethodDescriptor "()I" = some ⟨[], some .int⟩ := by decide +kernel
theorem pd9 : parseMethodDescriptor "()Ljava/lang/String;" = some ⟨[], some (.object "java/lang/String")⟩ := by decide +kernel
theorem pd10 : parseMethodDescriptor "()Lcom/example/lane/lane/config/HostPort;" = some ⟨[], some (.object "com/example/lane/lane/config/HostPort")⟩ := by decide +kernel
theorem pd11 : parseMethodDescriptor "(Ljava/lang/String;Lcom/example/lane/lane/config/HostPort;)V" = some ⟨[(.object "java/lang/String"), (.object "com/example/lane/lane/config/HostPort")], none⟩ := by decide +kernel
theorem pn5 : plainName "com/example/lane/lane/AccessRecordTriedPinLaw" = true := by first | (simp [plainName, overriddenIn]; done) | decide +kernel
theorem ef_0 (m : MethodId) (x1 : Int32) (x2 : Int32) (x3 : Int32) (x4 : Int32) (x5 : Int32) (x6 : Int64) : entryFrame m #[(.int x1), (.int x2), (.int x3), (.int x4), (.int x5), (.long x6)] maxLocals = mkF m 0 #[.val (.int x1), .val (.int x2), .val (.int x3), .val (.int x4), .val (.int x5), .val (.long x6), .second, .unset, .unset, .unset, .unset, .unset, .unset, .unset, .unset, .unset, .unset, .unset, .unset, .unset, .unset, .unset, .unset] [] := by first | (simp [entryFrame, mkF, argsToLocals, Value.category, maxLocals]; done) | rfl
def Q0 (Z : State) (x1 : Int32) (x2 : Int32) (x3 : Int32) (x4 : Int32) (x5 : Int32) (x6 : Int64) (cs : Int32) (h0 : Heap) (n0 : Nat) (v : Option Value) (h : Heap) (L : List Loc) : Prop := v = some (.int (1 : Int32)) ∧ Fr n0 L
set_option maxRecDepth 65536 in
set_option maxHeartbeats 40000000 in
theorem rm0 (l : Launch) (Z : State) (a0 : Array Value) (hw : ∀ d ∈ tables_1, d.before a0 Z = true) (x1 : Int32) (x2 : Int32) (x3 : Int32) (x4 : Int32) (x5 : Int32) (x6 : Int64) (cs : Int32) (h0 : Heap) (n0 : Nat) (Zs : n0 ≤ h0.size) (Od : Old Z n0 h0) (Scs : Sta Z Z.heap "java/lang/String" "COMPACT_STRINGS" "Z" (.int cs)) (hcs : ¬ cs = (0 : Int32)) :
    Con l Z x code maxLocals ret room_1 #[(.int x1), (.int x2), (.int x3), (.int x4), (.int x5), (.long x6)] h0 (Q0 Z x1 x2 x3 x4 x5 x6 cs h0 n0) := by
  refine Con.intro (plainFor_of_name pn5) (fun m => ef_0 m x1 x2 x3 x4 x5 x6) ?_
  intro p e s m below meth c s₁ hx hby hml0 hZ hown hnm hret hlk X0 e0
  have hml : c.maxLocals = 23 := hml0
  have N0 := Fr.nil n0
  have Kp : Keep h0 h0 [] := Keep.refl h0 _
  show Go _ _ _ _ _ _ _ (s₁.setTop (mkF m 0 #[.val (.int x1), .val (.int x2), .val (.int x3), .val (.int x4), .val (.int x5), .val (.long x6), .second, .unset, .unset, .unset, .unset, .unset, .unset, .unset, .unset, .unset, .unset, .unset, .unset, .unset, .unset, .unset, .unset] []))
  refine Go.of (fun _ q => XS.iconst X0.here hx rfl (hb hby at_0) q) ?_
  show Go _ _ _ _ _ _ _ (s₁.setTop (mkF m 1 #[.val (.int x1), .val (.int x2), .val (.int x3), .val (.int x4), .val (.int x5), .val (.long x6), .second, .unset, .unset, .unset, .unset, .unset, .unset, .unset, .unset, .unset, .unset, .unset, .unset, .unset, .unset, .unset, .unset] [(.int (2 : Int32))]))
  obtain ⟨T1, h1, k1, X1, e1, E1, A1, B1, st1⟩ := newPE X0 hx hZ (hw _ (List.mem_of_getElem? (i := 0) rfl)) e0 (g := (mkF m 1 #[.val (.int x1), .val (.int x2), .val (.int x3), .val (.int x4), .val (.int x5), .val (.long x6), .second, .unset, .unset, .unset, .unset, .unset, .unset, .unset, .unset, .unset, .unset, .unset, .unset, .unset, .unset, .unset, .unset] [(.int (2 : Int32))])) rfl (hb hby at_1) rfl (by decide) (cap := 2) (by decide) (by decide) (by decide) (by decide) (ad := "[C") (by decide)
  obtain ⟨b1, g1⟩ : ∃ z, z = h0.size := ⟨_, rfl⟩
  rw [← g1] at A1 B1 st1
  refine Go.of st1 ?_
  have g_b1 : n0 ≤ b1 := Nat.le_trans Zs (Nat.le_of_eq g1.symm)
  have sz_b1 : h0.size ≤ b1 := Nat.le_trans Kp.1 (Nat.le_of_eq g1.symm)
  have Zs := Nat.le_trans Zs E1.1
  have Kp := Kp.ext E1
  have Od := Od.ext E1
  have E_b1 := B1
  have A_b1 : AF Z h1 b1 k1 .char 2 (fun i => .int ((fun _ => (0 : Int32)) i)) := AF.new A1 (by decide) rfl rfl
  show Go _ _ _ _ _ _ _ (T1.setTop (mkF m 3 #[.val (.int x1), .val (.int x2), .val (.int x3), .val (.int x4), .val (.int x5), .val (.long x6), .second, .unset, .unset, .unset, .unset, .unset, .unset, .unset, .unset, .unset, .unset, .unset, .unset, .unset, .unset, .unset, .unset] [(.ref b1)]))
  refine Go.of (fun _ q => XS.astore X1.here hx rfl (hb hby at_3) rfl rfl (l' := #[.val (.int x1), .val (.int x2), .val (.int x3), .val (.int x4), .val (.int x5), .val (.long x6), .second, .val (.ref b1), .unset, .unset, .unset, .unset, .unset, .unset, .unset, .unset, .unset, .unset, .unset, .unset, .unset, .unset, .unset]) rfl q) ?_
  show Go _ _ _ _ _ _ _ (T1.setTop (mkF m 5 #[.val (.int x1), .val (.int x2), .val (.int x3), .val (.int x4), .val (.int x5), .val (.long x6), .second, .val (.ref b1), .unset, .unset, .unset, .unset, .unset, .unset, .unset, .unset, .unset, .unset, .unset, .unset, .unset, .unset, .unset] []))
  refine Go.of (fun _ q => XS.aload X1.here hx rfl (hb hby at_5) rfl rfl q) ?_
  show Go _ _ _ _ _ _ _ (T1.setTop (mkF m 7 #[.val (.int x1), .val (.int x2), .val (.int x3), .val (.int x4), .val (.int x5), .val (.long x6), .second, .val (.ref b1), .unset, .unset, .unset, .unset, .unset, .unset, .unset, .unset, .unset, .unset, .unset, .unset, .unset, .unset, .unset] [(.ref b1)]))
  refine Go.of (fun _ q => XS.iconst X1.here hx rfl (hb hby at_7) q) ?_
  show Go _ _ _ _ _ _ _ (T1.setTop (mkF m 8 #[.val (.int x1), .val (.int x2), .val (.int x3), .val (.int x4), .val (.int x5), .val (.long x6), .second, .val (.ref b1), .unset, .unset, .unset, .unset, .unset, .unset, .unset, .unset, .unset, .unset, .unset, .unset, .unset, .unset, .unset] [(.int (0 : Int32)), (.ref b1)]))
  refine Go.of (fun _ q => XS.iloadN X1.here hx rfl (hb hby at_8) rfl q) ?_
  show Go _ _ _ _ _ _ _ (T1.setTop (mkF m 9 #[.val (.int x1), .val (.int x2), .val (.int x3), .val (.int x4), .val (.int x5), .val (.long x6), .second, .val (.ref b1), .unset, .unset, .unset, .unset, .unset, .unset, .unset, .unset, .unset, .unset, .unset, .unset, .unset, .unset, .unset] [(.int x1), (.int (0 : Int32)), (.ref b1)]))
  refine Go.of (fun _ q => XS.sipush X1.here hx rfl (hb hby at_9) q) ?_
  show Go _ _ _ _ _ _ _ (T1.setTop (mkF m 12 #[.val (.int x1), .val (.int x2), .val (.int x3), .val (.int x4), .val (.int x5), .val (.long x6), .second, .val (.ref b1), .unset, .unset, .unset, .unset, .unset, .unset, .unset, .unset, .unset, .unset, .unset, .unset, .unset, .unset, .unset] [(.int (255 : Int32)), (.int x1), (.int (0 : Int32)), (.ref b1)]))
  refine Go.of (fun _ q => XS.iand X1.here hx rfl (hb hby at_12) rfl q) ?_
  show Go _ _ _ _ _ _ _ (T1.setTop (mkF m 13 #[.val (.int x1), .val (.int x2), .val (.int x3), .val (.int x4), .val (.int x5), .val (.long x6), .second, .val (.ref b1), .unset, .unset, .unset, .unset, .unset, .unset, .unset, .unset, .unset, .unset, .unset, .unset, .unset, .unset, .unset] [(.int (x1 &&& (255 : Int32))), (.int (0 : Int32)), (.ref b1)]))
  refine Go.of (fun _ q => XS.i2c X1.here hx rfl (hb hby at_13) rfl q) ?_
  show Go _ _ _ _ _ _ _ (T1.setTop (mkF m 14 #[.val (.int x1), .val (.int x2), .val (.int x3), .val (.int x4), .val (.int x5), .val (.long x6), .second, .val (.ref b1), .unset, .unset, .unset, .unset, .unset, .unset, .unset, .unset, .unset, .unset, .unset, .unset, .unset, .unset, .unset] [(.int ((x1 &&& (255 : Int32)).toUInt32.toUInt16.toUInt32.toInt32)), (.int (0 : Int32)), (.ref b1)]))
  obtain ⟨T2, h2, X2, e2, W2, A2', st2⟩ := AF.castore A_b1 X1 hx hZ e1 (i := 0) ⟨rfl, by decide, by decide⟩ (g := (mkF m 14 #[.val (.int x1), .val (.int x2), .val (.int x3), .val (.int x4), .val (.int x5), .val (.long x6), .second, .val (.ref b1), .unset, .unset, .unset, .unset, .unset, .unset, .unset, .unset, .unset, .unset, .unset, .unset, .unset, .unset, .unset] [(.int ((x1 &&& (255 : Int32)).toUInt32.toUInt16.toUInt32.toInt32)), (.int (0 : Int32)), (.ref b1)])) rfl rfl (hb hby at_14)
  refine Go.of st2 ?_
  have Zs := Nat.le_trans Zs (Nat.le_of_eq W2.size.symm)
  have Kp := Kp.wr W2 (Or.inr sz_b1)
  have Od := Od.wr W2 g_b1
  have E_b1 := E_b1.wr W2
  have A_b1 : AF Z h2 b1 k1 .char 2 (fun i => .int ((upI (fun _ => (0 : Int32)) 0 (((x1 &&& (255 : Int32)).toUInt32.toUInt16.toUInt32.toInt32).toUInt32.toUInt16.toUInt32.toInt32)) i)) := A2'.toI
  have N2 := Fr.snoc X2 N0 g_b1
  show Go _ _ _ _ _ _ _ (T2.setTop (mkF m 15 #[.val (.int x1), .val (.int x2), .val (.int x3), .val (.int x4), .val (.int x5), .val (.long x6), .second, .val (.ref b1), .unset, .unset, .unset, .unset, .unset, .unset, .unset, .unset, .unset, .unset, .unset, .unset, .unset, .unset, .unset] []))
  refine Go.of (fun _ q => XS.aload X2.here hx rfl (hb hby at_15) rfl rfl q) ?_
  show Go _ _ _ _ _ _ _ (T2.setTop (mkF m 17 #[.val (.int x1), .val (.int x2), .val (.int x3), .val (.int x4), .val (.int x5), .val (.long x6), .second, .val (.ref b1), .unset, .unset, .unset, .unset, .unset, .unset, .unset, .unset, .unset, .unset, .unset, .unset, .unset, .unset, .unset] [(.ref b1)]))
  refine Go.of (fun _ q => XS.iconst X2.here hx rfl (hb hby at_17) q) ?_
  show Go _ _ _ _ _ _ _ (T2.setTop (mkF m 18 #[.val (.int x1), .val (.int x2), .val (.int x3), .val (.int x4), .val (.int x5), .val (.long x6), .second, .val (.ref b1), .unset, .unset, .unset, .unset, .unset, .unset, .unset, .unset, .unset, .unset, .unset, .unset, .unset, .unset, .unset] [(.int (1 : Int32)), (.ref b1)]))
  refine Go.of (fun _ q => XS.iloadN X2.here hx rfl (hb hby at_18) rfl q) ?_
  show Go _ _ _ _ _ _ _ (T2.setTop (mkF m 19 #[.val (.int x1), .val (.int x2), .val (.int x3), .val (.int x4), .val (.int x5), .val (.long x6), .second, .val (.ref b1), .unset, .unset, .unset, .unset, .unset, .unset, .unset, .unset, .unset, .unset, .unset, .unset, .unset, .unset, .unset] [(.int x1), (.int (1 : Int32)), (.ref b1)]))
  refine Go.of (fun _ q => XS.bipush X2.here hx rfl (hb hby at_19) q) ?_
  show Go _ _ _ _ _ _ _ (T2.setTop (mkF m 21 #[.val (.int x1), .val (.int x2), .val (.int x3), .val (.int x4), .val (.int x5), .val (.long x6), .second, .val (.ref b1), .unset, .unset, .unset, .unset, .unset, .unset, .unset, .unset, .unset, .unset, .unset, .unset, .unset, .unset, .unset] [(.int (8 : Int32)), (.int x1), (.int (1 : Int32)), (.ref b1)]))
  refine Go.of (fun _ q => XS.iushr X2.here hx rfl (hb hby at_21) rfl q) ?_
  show Go _ _ _ _ _ _ _ (T2.setTop (mkF m 22 #[.val (.int x1), .val (.int x2), .val (.int x3), .val (.int x4), .val (.int x5), .val (.long x6), .second, .val (.ref b1), .unset, .unset, .unset, .unset, .unset, .unset, .unset, .unset, .unset, .unset, .unset, .unset, .unset, .unset, .unset] [(.int ((x1.toUInt32 >>> ((8 : Int32) &&& 31).toUInt32).toInt32)), (.int (1 : Int32)), (.ref b1)]))
  refine Go.of (fun _ q => XS.sipush X2.here hx rfl (hb hby at_22) q) ?_
  show Go _ _ _ _ _ _ _ (T2.setTop (mkF m 25 #[.val (.int x1), .val (.int x2), .val (.int x3), .val (.int x4), .val (.int x5), .val (.long x6), .second, .val (.ref b1), .unset, .unset, .unset, .unset, .unset, .unset, .unset, .unset, .unset, .unset, .unset, .unset, .unset, .unset, .unset] [(.int (255 : Int32)), (.int ((x1.toUInt32 >>> ((8 : Int32) &&& 31).toUInt32).toInt32)), (.int (1 : Int32)), (.ref b1)]))
  refine Go.of (fun _ q => XS.iand X2.here hx rfl (hb hby at_25) rfl q) ?_
  show Go _ _ _ _ _ _ _ (T2.setTop (mkF m 26 #[.val (.int x1), .val (.int x2), .val (.int x3), .val (.int x4), .val (.int x5), .val (.long x6), .second, .val (.ref b1), .unset, .unset, .unset, .unset, .unset, .unset, .unset, .unset, .unset, .unset, .unset, .unset, .unset, .unset, .unset] [(.int (((x1.toUInt32 >>> ((8 : Int32) &&& 31).toUInt32).toInt32) &&& (255 : Int32))), (.int (1 : Int32)), (.ref b1)]))
  refine Go.of (fun _ q => XS.i2c X2.here hx rfl (hb hby at_26) rfl q) ?_
  show Go _ _ _ _ _ _ _ (T2.setTop (mkF m 27 #[.val (.int x1), .val (.int x2), .val (.int x3), .val (.int x4), .val (.int x5), .val (.long x6), .second, .val (.ref b1), .unset, .unset, .unset, .unset, .unset, .unset, .unset, .unset, .unset, .unset, .unset, .unset, .unset, .unset, .unset] [(.int ((((x1.toUInt32 >>> ((8 : Int32) &&& 31).toUInt32).toInt32) &&& (255 : Int32)).toUInt32.toUInt16.toUInt32.toInt32)), (.int (1 : Int32)), (.ref b1)]))
  obtain ⟨T3, h3, X3, e3, W3, A3', st3⟩ := AF.castore A_b1 X2 hx hZ e2 (i := 1) ⟨rfl, by decide, by decide⟩ (g := (mkF m 27 #[.val (.int x1), .val (.int x2), .val (.int x3), .val (.int x4), .val (.int x5), .val (.long x6), .second, .val (.ref b1), .unset, .unset, .unset, .unset, .unset, .unset, .unset, .unset, .unset, .unset, .unset, .unset, .unset, .unset, .unset] [(.int ((((x1.toUInt32 >>> ((8 : Int32) &&& 31).toUInt32).toInt32) &&& (255 : Int32)).toUInt32.toUInt16.toUInt32.toInt32)), (.int (1 : Int32)), (.ref b1)])) rfl rfl (hb hby at_27)
  refine Go.of st3 ?_
  have Zs := Nat.le_trans Zs (Nat.le_of_eq W3.size.symm)
  have Kp := Kp.wr W3 (Or.inr sz_b1)
  have Od := Od.wr W3 g_b1
  have E_b1 := E_b1.wr W3
  have A_b1 : AF Z h3 b1 k1 .char 2 (fun i => .int ((upI (upI (fun _ => (0 : Int32)) 0 (((x1 &&& (255 : Int32)).toUInt32.toUInt16.toUInt32.toInt32).toUInt32.toUInt16.toUInt32.toInt32)) 1 (((((x1.toUInt32 >>> ((8 : Int32) &&& 31).toUInt32).toInt32) &&& (255 : Int32)).toUInt32.toUInt16.toUInt32.toInt32).toUInt32.toUInt16.toUInt32.toInt32)) i)) := A3'.toI
  have N3 := Fr.snoc X3 N2 g_b1
  show Go _ _ _ _ _ _ _ (T3.setTop (mkF m 28 #[.val (.int x1), .val (.int x2), .val (.int x3), .val (.int x4), .val (.int x5), .val (.long x6), .second, .val (.ref b1), .unset, .unset, .unset, .unset, .unset, .unset, .unset, .unset, .unset, .unset, .unset, .unset, .unset, .unset, .unset] []))
  obtain ⟨T4, h4, X4, e4, E4, A4, D4, -, st4⟩ := newO X3 hx hZ hown (hw _ (List.mem_of_getElem? (i := 1) rfl)) (hw _ (List.mem_of_getElem? (i := 2) rfl)) (hw _ (List.mem_of_getElem? (i := 3) rfl)) e3 (g := (mkF m 28 #[.val (.int x1), .val (.int x2), .val (.int x3), .val (.int x4), .val (.int x5), .val (.long x6), .second, .val (.ref b1), .unset, .unset, .unset, .unset, .unset, .unset, .unset, .unset, .unset, .unset, .unset, .unset, .unset, .unset, .unset] [])) rfl (hb hby at_28) (by decide) (by decide)
  obtain ⟨s1, g4⟩ : ∃ z, z = h3.size := ⟨_, rfl⟩
  rw [← g4] at A4 D4 st4
  refine Go.of st4 ?_
  have g_s1 : n0 ≤ s1 := Nat.le_trans Zs (Nat.le_of_eq g4.symm)
  have sz_s1 : h0.size ≤ s1 := Nat.le_trans Kp.1 (Nat.le_of_eq g4.symm)
  have ne_b1_s1 : b1 ≠ s1 := Nat.ne_of_lt (Nat.lt_of_lt_of_le E_b1.lt (Nat.le_of_eq g4.symm))
  have Zs := Nat.le_trans Zs E4.1
  have Kp := Kp.ext E4
  have Od := Od.ext E4
  have E_b1 := E_b1.ext E4
  have A_b1 := A_b1.ext E4
  have E_s1 := A4
  have F_s1_coder : Fld Z h4 s1 "java/lang/String" "coder" "B" (.int (0 : Int32)) := D4 (Or.inr (hw _ (List.mem_of_getElem? (i := 27) rfl))) (ty := .byte) (by decide)
  have F_s1_value : Fld Z h4 s1 "java/lang/String" "value" "[B" .null := D4 (Or.inr (hw _ (List.mem_of_getElem? (i := 29) rfl))) (ty := (.array .byte)) (by decide)
  show Go _ _ _ _ _ _ _ (T4.setTop (mkF m 31 #[.val (.int x1), .val (.int x2), .val (.int x3), .val (.int x4), .val (.int x5), .val (.long x6), .second, .val (.ref b1), .unset, .unset, .unset, .unset, .unset, .unset, .unset, .unset, .unset, .unset, .unset, .unset, .unset, .unset, .unset] [(.ref s1)]))
  refine Go.of (fun _ q => XS.dup X4.here hx rfl (hb hby at_31) rfl rfl q) ?_
  show Go _ _ _ _ _ _ _ (T4.setTop (mkF m 32 #[.val (.int x1), .val (.int x2), .val (.int x3), .val (.int x4), .val (.int x5), .val (.long x6), .second, .val (.ref b1), .unset, .unset, .unset, .unset, .unset, .unset, .unset, .unset, .unset, .unset, .unset, .unset, .unset, .unset, .unset] [(.ref s1), (.ref s1)]))
  refine Go.of (fun _ q => XS.aload X4.here hx rfl (hb hby at_32) rfl rfl q) ?_
  show Go _ _ _ _ _ _ _ (T4.setTop (mkF m 34 #[.val (.int x1), .val (.int x2), .val (.int x3), .val (.int x4), .val (.int x5), .val (.long x6), .second, .val (.ref b1), .unset, .unset, .unset, .unset, .unset, .unset, .unset, .unset, .unset, .unset, .unset, .unset, .unset, .unset, .unset] [(.ref b1), (.ref s1), (.ref s1)]))
  refine Go.special X4 hx hZ (y := (⟨"java/lang/String", "<init>", "([C)V"⟩ : MethodName)) (a := s1) (argsL := [(.ref b1)]) rfl hown (hw _ (List.mem_of_getElem? (i := 4) rfl)) (hw _ (List.mem_of_getElem? (i := 5) rfl)) (hw _ (List.mem_of_getElem? (i := 3) rfl)) (hw _ (List.mem_of_getElem? (i := 6) rfl)) (by decide) 1 e4 (rm1_s2 l Z a0 hw s1 b1 k1 (upI (upI (fun _ => (0 : Int32)) 0 (((x1 &&& (255 : Int32)).toUInt32.toUInt16.toUInt32.toInt32).toUInt32.toUInt16.toUInt32.toInt32)) 1 (((((x1.toUInt32 >>> ((8 : Int32) &&& 31).toUInt32).toInt32) &&& (255 : Int32)).toUInt32.toUInt16.toUInt32.toInt32).toUInt32.toUInt16.toUInt32.toInt32)) .null (0 : Int32) cs h4 n0 Zs Od E_s1 F_s1_value F_s1_coder g_s1 A_b1 ne_b1_s1 (fun i hi => by rcases (show i = 0 ∨ i = 1 by omega) with rfl | rfl <;> exact own_chr2 _) Scs hcs) (by decide) (by decide) (by decide) (by decide) (g := (mkF m 34 #[.val (.int x1), .val (.int x2), .val (.int x3), .val (.int x4), .val (.int x5), .val (.long x6), .second, .val (.ref b1), .unset, .unset, .unset, .unset, .unset, .unset, .unset, .unset, .unset, .unset, .unset, .unset, .unset, .unset, .unset] [(.ref b1), (.ref s1), (.ref s1)])) rfl (by rw [hml]; rfl) (rest := [(.ref s1)]) (lenOf pd5 rfl) rfl (by show 2 * 0 + _ ≤ _; exact Nat.le_of_eq rfl) (hb hby at_34) ?_
  intro T5 v5 L5 X5 q5
  obtain ⟨d1, kd1, rfl, Nq5, K5, f5_0, f5_1, f5_2, f5_3, f5_4⟩ := q5
  have N5 := Fr.app N3 Nq5
  have g_d1 : n0 ≤ d1 := Nat.le_trans Zs f5_0
  have sz_d1 : h0.size ≤ d1 := Nat.le_trans Kp.1 f5_0
  have ne_b1_d1 : b1 ≠ d1 := Nat.ne_of_lt (Nat.lt_of_lt_of_le E_b1.lt f5_0)
  have ne_s1_d1 : s1 ≠ d1 := Nat.ne_of_lt (Nat.lt_of_lt_of_le E_s1.lt f5_0)
  have Zs := Nat.le_trans Zs K5.1
  have Kp := Kp.trans K5 (allS (P := fun x => x ∈ [] ∨ h0.size ≤ x) (Or.inr sz_s1) all0)
  have Od := Od.keep K5 (allS (P := fun x => n0 ≤ x) g_s1 all0)
  have E_b1 := E_b1.keep K5
  have A_b1 := A_b1.keep K5 (ninS ne_b1_s1 nin0)
  have E_s1 := E_s1.keep K5
  have F_s1_value := f5_2
  have F_s1_coder := f5_3
  have A_d1 := f5_4
  show Go _ _ _ _ _ _ _ (T5.setTop (mkF m 37 #[.val (.int x1), .val (.int x2), .val (.int x3), .val (.int x4), .val (.int x5), .val (.long x6), .second, .val (.ref b1), .unset, .unset, .unset, .unset, .unset, .unset, .unset, .unset, .unset, .unset, .unset, .unset, .unset, .unset, .unset] [(.ref s1)]))
  refine Go.of (fun _ q => XS.astore X5.here hx rfl (hb hby at_37) rfl rfl (l' := #[.val (.int x1), .val (.int x2), .val (.int x3), .val (.int x4), .val (.int x5), .val (.long x6), .second, .val (.ref b1), .val (.ref s1), .unset, .unset, .unset, .unset, .unset, .unset, .unset, .unset, .unset, .unset, .unset, .unset, .unset, .unset]) rfl q) ?_
  show Go _ _ _ _ _ _ _ (T5.setTop (mkF m 39 #[.val (.int x1), .val (.int x2), .val (.int x3), .val (.int x4), .val (.int x5), .val (.long x6), .second, .val (.ref b1), .val (.ref s1), .unset, .unset, .unset, .unset, .unset, .unset, .unset, .unset, .unset, .unset, .unset, .unset, .unset, .unset] []))
  refine Go.of (fun _ q => XS.iconst X5.here hx rfl (hb hby at_39) q) ?_
  show Go _ _ _ _ _ _ _ (T5.setTop (mkF m 40 #[.val (.int x1), .val (.int x2), .val (.int x3), .val (.int x4), .val (.int x5), .val (.long x6), .second, .val (.ref b1), .val (.ref s1), .unset, .unset, .unset, .unset, .unset, .unset, .unset, .unset, .unset, .unset, .unset, .unset, .unset, .unset] [(.int (1 : Int32))]))
  obtain ⟨T6, h6, k6, X6, e6, E6, A6, B6, st6⟩ := newPE X5 hx hZ (hw _ (List.mem_of_getElem? (i := 0) rfl)) rfl (g := (mkF m 40 #[.val (.int x1), .val (.int x2), .val (.int x3), .val (.int x4), .val (.int x5), .val (.long x6), .second, .val (.ref b1), .val (.ref s1), .unset, .unset, .unset, .unset, .unset, .unset, .unset, .unset, .unset, .unset, .unset, .unset, .unset, .unset] [(.int (1 : Int32))])) rfl (hb hby at_40) rfl (by decide) (cap := 1) (by decide) (by decide) (by decide) (by decide) (ad := "[C") (by decide)
  obtain ⟨b2, g6⟩ : ∃ z, z = T5.heap.size := ⟨_, rfl⟩
  rw [← g6] at A6 B6 st6
  refine Go.of st6 ?_
  have g_b2 : n0 ≤ b2 := Nat.le_trans Zs (Nat.le_of_eq g6.symm)
  have sz_b2 : h0.size ≤ b2 := Nat.le_trans Kp.1 (Nat.le_of_eq g6.symm)
  have ne_b1_b2 : b1 ≠ b2 := Nat.ne_of_lt (Nat.lt_of_lt_of_le E_b1.lt (Nat.le_of_eq g6.symm))
  have ne_s1_b2 : s1 ≠ b2 := Nat.ne_of_lt (Nat.lt_of_lt_of_le E_s1.lt (Nat.le_of_eq g6.symm))
  have ne_d1_b2 : d1 ≠ b2 := Nat.ne_of_lt (Nat.lt_of_lt_of_le A_d1.lt (Nat.le_of_eq g6.symm))
  have Zs := Nat.le_trans Zs E6.1
  have Kp := Kp.ext E6
  have Od := Od.ext E6
  have E_b1 := E_b1.ext E6
  have A_b1 := A_b1.ext E6
  have E_s1 := E_s1.ext E6
  have F_s1_value := F_s1_value.ext E6
  have F_s1_coder := F_s1_coder.ext E6
  have A_d1 := A_d1.ext E6
  have E_b2 := B6
  have A_b2 : AF Z h6 b2 k6 .char 1 (fun i => .int ((fun _ => (0 : Int32)) i)) := AF.new A6 (by decide) rfl rfl
  show Go _ _ _ _ _ _ _ (T6.setTop (mkF m 42 #[.val (.int x1), .val (.int x2), .val (.int x3), .val (.int x4), .val (.int x5), .val (.long x6), .second, .val (.ref b1), .val (.ref s1), .unset, .unset, .unset, .unset, .unset, .unset, .unset, .unset, .unset, .unset, .unset, .unset, .unset, .unset] [(.ref b2)]))
  refine Go.of (fun _ q => XS.astore X6.here hx rfl (hb hby at_42) rfl rfl (l' := #[.val (.int x1), .val (.int x2), .val (.int x3), .val (.int x4), .val (.int x5), .val (.long x6), .second, .val (.ref b1), .val (.ref s1), .val (.ref b2), .unset, .unset, .unset, .unset, .unset, .unset, .unset, .unset, .unset, .unset, .unset, .unset, .unset]) rfl q) ?_
  show Go _ _ _ _ _ _ _ (T6.setTop (mkF m 44 #[.val (.int x1), .val (.int x2), .val (.int x3), .val (.int x4), .val (.int x5), .val (.long x6), .second, .val (.ref b1), .val (.ref s1), .val (.ref b2), .unset, .unset, .unset, .unset, .unset, .unset, .unset, .unset, .unset, .unset, .unset, .unset, .unset] []))
  refine Go.of (fun _ q => XS.aload X6.here hx rfl (hb hby at_44) rfl rfl q) ?_
  show Go _ _ _ _ _ _ _ (T6.setTop (mkF m 46 #[.val (.int x1), .val (.int x2), .val (.int x3), .val (.int x4), .val (.int x5), .val (.long x6), .second, .val (.ref b1), .val (.ref s1), .val (.ref b2), .unset, .unset, .unset, .unset, .unset, .unset, .unset, .unset, .unset, .unset, .unset, .unset, .unset] [(.ref b2)]))
  refine Go.of (fun _ q => XS.iconst X6.here hx rfl (hb hby at_46) q) ?_
  show Go _ _ _ _ _ _ _ (T6.setTop (mkF m 47 #[.val (.int x1), .val (.int x2), .val (.int x3), .val (.int x4), .val (.int x5), .val (.long x6), .second, .val (.ref b1), .val (.ref s1), .val (.ref b2), .unset, .unset, .unset, .unset, .unset, .unset, .unset, .unset, .unset, .unset, .unset, .unset, .unset] [(.int (0 : Int32)), (.ref b2)]))
  refine Go.of (fun _ q => XS.iloadN X6.here hx rfl (hb hby at_47) rfl q) ?_
  show Go _ _ _ _ _ _ _ (T6.setTop (mkF m 48 #[.val (.int x1), .val (.int x2), .val (.int x3), .val (.int x4), .val (.int x5), .val (.long x6), .second, .val (.ref b1), .val (.ref s1), .val (.ref b2), .unset, .unset, .unset, .unset, .unset, .unset, .unset, .unset, .unset, .unset, .unset, .unset, .unset] [(.int x2), (.int (0 : Int32)), (.ref b2)]))
  refine Go.of (fun _ q => XS.sipush X6.here hx rfl (hb hby at_48) q) ?_
  show Go _ _ _ _ _ _ _ (T6.setTop (mkF m 51 #[.val (.int x1), .val (.int x2), .val (.int x3), .val (.int x4), .val (.int x5), .val (.long x6), .second, .val (.ref b1), .val (.ref s1), .val (.ref b2), .unset, .unset, .unset, .unset, .unset, .unset, .unset, .unset, .unset, .unset, .unset, .unset, .unset] [(.int (255 : Int32)), (.int x2), (.int (0 : Int32)), (.ref b2)]))
  refine Go.of (fun _ q => XS.iand X6.here hx rfl (hb hby at_51) rfl q) ?_
  show Go _ _ _ _ _ _ _ (T6.setTop (mkF m 52 #[.val (.int x1), .val (.int x2), .val (.int x3), .val (.int x4), .val (.int x5), .val (.long x6), .second, .val (.ref b1), .val (.ref s1), .val (.ref b2), .unset, .unset, .unset, .unset, .unset, .unset, .unset, .unset, .unset, .unset, .unset, .unset, .unset] [(.int (x2 &&& (255 : Int32))), (.int (0 : Int32)), (.ref b2)]))
  refine Go.of (fun _ q => XS.i2c X6.here hx rfl (hb hby at_52) rfl q) ?_
  show Go _ _ _ _ _ _ _ (T6.setTop (mkF m 53 #[.val (.int x1), .val (.int x2), .val (.int x3), .val (.int x4), .val (.int x5), .val (.long x6), .second, .val (.ref b1), .val (.ref s1), .val (.ref b2), .unset, .unset, .unset, .unset, .unset, .unset, .unset, .unset, .unset, .unset, .unset, .unset, .unset] [(.int ((x2 &&& (255 : Int32)).toUInt32.toUInt16.toUInt32.toInt32)), (.int (0 : Int32)), (.ref b2)]))
  obtain ⟨T7, h7, X7, e7, W7, A7', st7⟩ := AF.castore A_b2 X6 hx hZ e6 (i := 0) ⟨rfl, by decide, by decide⟩ (g := (mkF m 53 #[.val (.int x1), .val (.int x2), .val (.int x3), .val (.int x4), .val (.int x5), .val (.long x6), .second, .val (.ref b1), .val (.ref s1), .val (.ref b2), .unset, .unset, .unset, .unset, .unset, .unset, .unset, .unset, .unset, .unset, .unset, .unset, .unset] [(.int ((x2 &&& (255 : Int32)).toUInt32.toUInt16.toUInt32.toInt32)), (.int (0 : Int32)), (.ref b2)])) rfl rfl (hb hby at_53)
  refine Go.of st7 ?_
  have Zs := Nat.le_trans Zs (Nat.le_of_eq W7.size.symm)
  have Kp := Kp.wr W7 (Or.inr sz_b2)
  have Od := Od.wr W7 g_b2
  have E_b1 := E_b1.wr W7
  have A_b1 := A_b1.other W7 ne_b1_b2
  have E_s1 := E_s1.wr W7
  have F_s1_value := F_s1_value.other W7 (Or.inl ne_s1_b2)
  have F_s1_coder := F_s1_coder.other W7 (Or.inl ne_s1_b2)
  have A_d1 := A_d1.other W7 ne_d1_b2
  have E_b2 := E_b2.wr W7
  have A_b2 : AF Z h7 b2 k6 .char 1 (fun i => .int ((upI (fun _ => (0 : Int32)) 0 (((x2 &&& (255 : Int32)).toUInt32.toUInt16.toUInt32.toInt32).toUInt32.toUInt16.toUInt32.toInt32)) i)) := A7'.toI
  have N7 := Fr.snoc X7 N5 g_b2
  show Go _ _ _ _ _ _ _ (T7.setTop (mkF m 54 #[.val (.int x1), .val (.int x2), .val (.int x3), .val (.int x4), .val (.int x5), .val (.long x6), .second, .val (.ref b1), .val (.ref s1), .val (.ref b2), .unset, .unset, .unset, .unset, .unset, .unset, .unset, .unset, .unset, .unset, .unset, .unset, .unset] []))
  obtain ⟨T8, h8, X8, e8, E8, A8, D8, -, st8⟩ := newO X7 hx hZ hown (hw _ (List.mem_of_getElem? (i := 1) rfl)) (hw _ (List.mem_of_getElem? (i := 2) rfl)) (hw _ (List.mem_of_getElem? (i := 3) rfl)) e7 (g := (mkF m 54 #[.val (.int x1), .val (.int x2), .val (.int x3), .val (.int x4), .val (.int x5), .val (.long x6), .second, .val (.ref b1), .val (.ref s1), .val (.ref b2), .unset, .unset, .unset, .unset, .unset, .unset, .unset, .unset, .unset, .unset, .unset, .unset, .unset] [])) rfl (hb hby at_54) (by decide) (by decide)
  obtain ⟨s2, g8⟩ : ∃ z, z = h7.size := ⟨_, rfl⟩
  rw [← g8] at A8 D8 st8
  refine Go.of st8 ?_
  have g_s2 : n0 ≤ s2 := Nat.le_trans Zs (Nat.le_of_eq g8.symm)
  have sz_s2 : h0.size ≤ s2 := Nat.le_trans Kp.1 (Nat.le_of_eq g8.symm)
  have ne_b1_s2 : b1 ≠ s2 := Nat.ne_of_lt (Nat.lt_of_lt_of_le E_b1.lt (Nat.le_of_eq g8.symm))
  have ne_s1_s2 : s1 ≠ s2 := Nat.ne_of_lt (Nat.lt_of_lt_of_le E_s1.lt (Nat.le_of_eq g8.symm))
  have ne_d1_s2 : d1 ≠ s2 := Nat.ne_of_lt (Nat.lt_of_lt_of_le A_d1.lt (Nat.le_of_eq g8.symm))
  have ne_b2_s2 : b2 ≠ s2 := Nat.ne_of_lt (Nat.lt_of_lt_of_le E_b2.lt (Nat.le_of_eq g8.symm))
  have Zs := Nat.le_trans Zs E8.1
  have Kp := Kp.ext E8
  have Od := Od.ext E8
  have E_b1 := E_b1.ext E8
  have A_b1 := A_b1.ext E8
  have E_s1 := E_s1.ext E8
  have F_s1_value := F_s1_value.ext E8
  have F_s1_coder := F_s1_coder.ext E8
  have A_d1 := A_d1.ext E8
  have E_b2 := E_b2.ext E8
  have A_b2 := A_b2.ext E8
  have E_s2 := A8
  have F_s2_coder : Fld Z h8 s2 "java/lang/String" "coder" "B" (.int (0 : Int32)) := D8 (Or.inr (hw _ (List.mem_of_getElem? (i := 27) rfl))) (ty := .byte) (by decide)
  have F_s2_value : Fld Z h8 s2 "java/lang/String" "value" "[B" .null := D8 (Or.inr (hw _ (List.mem_of_getElem? (i := 29) rfl))) (ty := (.array .byte)) (by decide)
  show Go _ _ _ _ _ _ _ (T8.setTop (mkF m 57 #[.val (.int x1), .val (.int x2), .val (.int x3), .val (.int x4), .val (.int x5), .val (.long x6), .second, .val (.ref b1), .val (.ref s1), .val (.ref b2), .unset, .unset, .unset, .unset, .unset, .unset, .unset, .unset, .unset, .unset, .unset, .unset, .unset] [(.ref s2)]))
  refine Go.of (fun _ q => XS.dup X8.here hx rfl (hb hby at_57) rfl rfl q) ?_
  show Go _ _ _ _ _ _ _ (T8.setTop (mkF m 58 #[.val (.int x1), .val (.int x2), .val (.int x3), .val (.int x4), .val (.int x5), .val (.long x6), .second, .val (.ref b1), .val (.ref s1), .val (.ref b2), .unset, .unset, .unset, .unset, .unset, .unset, .unset, .unset, .unset, .unset, .unset, .unset, .unset] [(.ref s2), (.ref s2)]))
  refine Go.of (fun _ q => XS.aload X8.here hx rfl (hb hby at_58) rfl rfl q) ?_
  show Go _ _ _ _ _ _ _ (T8.setTop (mkF m 60 #[.val (.int x1), .val (.int x2), .val (.int x3), .val (.int x4), .val (.int x5), .val (.long x6), .second, .val (.ref b1), .val (.ref s1), .val (.ref b2), .unset, .unset, .unset, .unset, .unset, .unset, .unset, .unset, .unset, .unset, .unset, .unset, .unset] [(.ref b2), (.ref s2), (.ref s2)]))
  refine Go.special X8 hx hZ (y := (⟨"java/lang/String", "<init>", "([C)V"⟩ : MethodName)) (a := s2) (argsL := [(.ref b2)]) rfl hown (hw _ (List.mem_of_getElem? (i := 4) rfl)) (hw _ (List.mem_of_getElem? (i := 5) rfl)) (hw _ (List.mem_of_getElem? (i := 3) rfl)) (hw _ (List.mem_of_getElem? (i := 6) rfl)) (by decide) 1 e8 (rm1_s1 l Z a0 hw s2 b2 k6 (upI (fun _ => (0 : Int32)) 0 (((x2 &&& (255 : Int32)).toUInt32.toUInt16.toUInt32.toInt32).toUInt32.toUInt16.toUInt32.toInt32)) .null (0 : Int32) cs h8 n0 Zs Od E_s2 F_s2_value F_s2_coder g_s2 A_b2 ne_b2_s2 (fun i hi => by rcases (show i = 0 by omega) with rfl; exact own_chr2 _) Scs hcs) (by decide) (by decide) (by decide) (by decide) (g := (mkF m 60 #[.val (.int x1), .val (.int x2), .val (.int x3), .val (.int x4), .val (.int x5), .val (.long x6), .second, .val (.ref b1), .val (.ref s1), .val (.ref b2), .unset, .unset, .unset, .unset, .unset, .unset, .unset, .unset, .unset, .unset, .unset, .unset, .unset] [(.ref b2), (.ref s2), (.ref s2)])) rfl (by rw [hml]; rfl) (rest := [(.ref s2)]) (lenOf pd5 rfl) rfl (by show 2 * 0 + _ ≤ _; exact Nat.le_of_eq rfl) (hb hby at_60) ?_
  intro T9 v9 L9 X9 q9
  obtain ⟨d2, kd2, rfl, Nq9, K9, f9_0, f9_1, f9_2, f9_3, f9_4⟩ := q9
  have N9 := Fr.app N7 Nq9
  have g_d2 : n0 ≤ d2 := Nat.le_trans Zs f9_0
  have sz_d2 : h0.size ≤ d2 := Nat.le_trans Kp.1 f9_0
  have ne_b1_d2 : b1 ≠ d2 := Nat.ne_of_lt (Nat.lt_of_lt_of_le E_b1.lt f9_0)
  have ne_s1_d2 : s1 ≠ d2 := Nat.ne_of_lt (Nat.lt_of_lt_of_le E_s1.lt f9_0)
  have ne_d1_d2 : d1 ≠ d2 := Nat.ne_of_lt (Nat.lt_of_lt_of_le A_d1.lt f9_0)
  have ne_b2_d2 : b2 ≠ d2 := Nat.ne_of_lt (Nat.lt_of_lt_of_le E_b2.lt f9_0)
  have ne_s2_d2 : s2 ≠ d2 := Nat.ne_of_lt (Nat.lt_of_lt_of_le E_s2.lt f9_0)
  have Zs := Nat.le_trans Zs K9.1
  have Kp := Kp.trans K9 (allS (P := fun x => x ∈ [] ∨ h0.size ≤ x) (Or.inr sz_s2) all0)
  have Od := Od.keep K9 (allS (P := fun x => n0 ≤ x) g_s2 all0)
  have E_b1 := E_b1.keep K9
  have A_b1 := A_b1.keep K9 (ninS ne_b1_s2 nin0)
  have E_s1 := E_s1.keep K9
  have F_s1_value := F_s1_value.keep K9 (ninS ne_s1_s2 nin0)
  have F_s1_coder := F_s1_coder.keep K9 (ninS ne_s1_s2 nin0)
  have A_d1 := A_d1.keep K9 (ninS ne_d1_s2 nin0)
  have E_b2 := E_b2.keep K9
  have A_b2 := A_b2.keep K9 (ninS ne_b2_s2 nin0)
  have E_s2 := E_s2.keep K9
  have F_s2_value := f9_2
  have F_s2_coder := f9_3
  have A_d2 := f9_4
  show Go _ _ _ _ _ _ _ (T9.setTop (mkF m 63 #[.val (.int x1), .val (.int x2), .val (.int x3), .val (.int x4), .val (.int x5), .val (.long x6), .second, .val (.ref b1), .val (.ref s1), .val (.ref b2), .unset, .unset, .unset, .unset, .unset, .unset, .unset, .unset, .unset, .unset, .unset, .unset, .unset] [(.ref s2)]))
  refine Go.of (fun _ q => XS.astore X9.here hx rfl (hb hby at_63) rfl rfl (l' := #[.val (.int x1), .val (.int x2), .val (.int x3), .val (.int x4), .val (.int x5), .val (.long x6), .second, .val (.ref b1), .val (.ref s1), .val (.ref b2), .val (.ref s2), .unset, .unset, .unset, .unset, .unset, .unset, .unset, .unset, .unset, .unset, .unset, .unset]) rfl q) ?_
  show Go _ _ _ _ _ _ _ (T9.setTop (mkF m 65 #[.val (.int x1), .val (.int x2), .val (.int x3), .val (.int x4), .val (.int x5), .val (.long x6), .second, .val (.ref b1), .val (.ref s1), .val (.ref b2), .val (.ref s2), .unset, .unset, .unset, .unset, .unset, .unset, .unset, .unset, .unset, .unset, .unset, .unset] []))
  refine Go.of (fun _ q => XS.iconst X9.here hx rfl (hb hby at_65) q) ?_
  show Go _ _ _ _ _ _ _ (T9.setTop (mkF m 66 #[.val (.int x1), .val (.int x2), .val (.int x3), .val (.int x4), .val (.int x5), .val (.long x6), .second, .val (.ref b1), .val (.ref s1), .val (.ref b2), .val (.ref s2), .unset, .unset, .unset, .unset, .unset, .unset, .unset, .unset, .unset, .unset, .unset, .unset] [(.int (1 : Int32))]))
  obtain ⟨T10, h10, k10, X10, e10, E10, A10, B10, st10⟩ := newPE X9 hx hZ (hw _ (List.mem_of_getElem? (i := 0) rfl)) rfl (g := (mkF m 66 #[.val (.int x1), .val (.int x2), .val (.int x3), .val (.int x4), .val (.int x5), .val (.long x6), .second, .val (.ref b1), .val (.ref s1), .val (.ref b2), .val (.ref s2), .unset, .unset, .unset, .unset, .unset, .unset, .unset, .unset, .unset, .unset, .unset, .unset] [(.int (1 : Int32))])) rfl (hb hby at_66) rfl (by decide) (cap := 1) (by decide) (by decide) (by decide) (by decide) (ad := "[C") (by decide)
  obtain ⟨b3, g10⟩ : ∃ z, z = T9.heap.size := ⟨_, rfl⟩
  rw [← g10] at A10 B10 st10
  refine Go.of st10 ?_
  have g_b3 : n0 ≤ b3 := Nat.le_trans Zs (Nat.le_of_eq g10.symm)
  have sz_b3 : h0.size ≤ b3 := Nat.le_trans Kp.1 (Nat.le_of_eq g10.symm)
  have ne_b1_b3 : b1 ≠ b3 := Nat.ne_of_lt (Nat.lt_of_lt_of_le E_b1.lt (Nat.le_of_eq g10.symm))
  have ne_s1_b3 : s1 ≠ b3 := Nat.ne_of_lt (Nat.lt_of_lt_of_le E_s1.lt (Nat.le_of_eq g10.symm))
  have ne_d1_b3 : d1 ≠ b3 := Nat.ne_of_lt (Nat.lt_of_lt_of_le A_d1.lt (Nat.le_of_eq g10.symm))
  have ne_b2_b3 : b2 ≠ b3 := Nat.ne_of_lt (Nat.lt_of_lt_of_le E_b2.lt (Nat.le_of_eq g10.symm))
  have ne_s2_b3 : s2 ≠ b3 := Nat.ne_of_lt (Nat.lt_of_lt_of_le E_s2.lt (Nat.le_of_eq g10.symm))
  have ne_d2_b3 : d2 ≠ b3 := Nat.ne_of_lt (Nat.lt_of_lt_of_le A_d2.lt (Nat.le_of_eq g10.symm))
  have Zs := Nat.le_trans Zs E10.1
  have Kp := Kp.ext E10
  have Od := Od.ext E10
  have E_b1 := E_b1.ext E10
  have A_b1 := A_b1.ext E10
  have E_s1 := E_s1.ext E10
  have F_s1_value := F_s1_value.ext E10
  have F_s1_coder := F_s1_coder.ext E10
  have A_d1 := A_d1.ext E10
  have E_b2 := E_b2.ext E10
  have A_b2 := A_b2.ext E10
  have E_s2 := E_s2.ext E10
  have F_s2_value := F_s2_value.ext E10
  have F_s2_coder := F_s2_coder.ext E10
  have A_d2 := A_d2.ext E10
  have E_b3 := B10
  have A_b3 : AF Z h10 b3 k10 .char 1 (fun i => .int ((fun _ => (0 : Int32)) i)) := AF.new A10 (by decide) rfl rfl
  show Go _ _ _ _ _ _ _ (T10.setTop (mkF m 68 #[.val (.int x1), .val (.int x2), .val (.int x3), .val (.int x4), .val (.int x5), .val (.long x6), .second, .val (.ref b1), .val (.ref s1), .val (.ref b2), .val (.ref s2), .unset, .unset, .unset, .unset, .unset, .unset, .unset, .unset, .unset, .unset, .unset, .unset] [(.ref b3)]))
  refine Go.of (fun _ q => XS.astore X10.here hx rfl (hb hby at_68) rfl rfl (l' := #[.val (.int x1), .val (.int x2), .val (.int x3), .val (.int x4), .val (.int x5), .val (.long x6), .second, .val (.ref b1), .val (.ref s1), .val (.ref b2), .val (.ref s2), .val (.ref b3), .unset, .unset, .unset, .unset, .unset, .unset, .unset, .unset, .unset, .unset, .unset]) rfl q) ?_
  show Go _ _ _ _ _ _ _ (T10.setTop (mkF m 70 #[.val (.int x1), .val (.int x2), .val (.int x3), .val (.int x4), .val (.int x5), .val (.long x6), .second, .val (.ref b1), .val (.ref s1), .val (.ref b2), .val (.ref s2), .val (.ref b3), .unset, .unset, .unset, .unset, .unset, .unset, .unset, .unset, .unset, .unset, .unset] []))
  refine Go.of (fun _ q => XS.aload X10.here hx rfl (hb hby at_70) rfl rfl q) ?_
  show Go _ _ _ _ _ _ _ (T10.setTop (mkF m 72 #[.val (.int x1), .val (.int x2), .val (.int x3), .val (.int x4), .val (.int x5), .val (.long x6), .second, .val (.ref b1), .val (.ref s1), .val (.ref b2), .val (.ref s2), .val (.ref b3), .unset, .unset, .unset, .unset, .unset, .unset, .unset, .unset, .unset, .unset, .unset] [(.ref b3)]))
  refine Go.of (fun _ q => XS.iconst X10.here hx rfl (hb hby at_72) q) ?_
  show Go _ _ _ _ _ _ _ (T10.setTop (mkF m 73 #[.val (.int x1), .val (.int x2), .val (.int x3), .val (.int x4), .val (.int x5), .val (.long x6), .second, .val (.ref b1), .val (.ref s1), .val (.ref b2), .val (.ref s2), .val (.ref b3), .unset, .unset, .unset, .unset, .unset, .unset, .unset, .unset, .unset, .unset, .unset] [(.int (0 : Int32)), (.ref b3)]))
  refine Go.of (fun _ q => XS.iloadN X10.here hx rfl (hb hby at_73) rfl q) ?_
  show Go _ _ _ _ _ _ _ (T10.setTop (mkF m 74 #[.val (.int x1), .val (.int x2), .val (.int x3), .val (.int x4), .val (.int x5), .val (.long x6), .second, .val (.ref b1), .val (.ref s1), .val (.ref b2), .val (.ref s2), .val (.ref b3), .unset, .unset, .unset, .unset, .unset, .unset, .unset, .unset, .unset, .unset, .unset] [(.int x1), (.int (0 : Int32)), (.ref b3)]))
  refine Go.of (fun _ q => XS.bipush X10.here hx rfl (hb hby at_74) q) ?_
  show Go _ _ _ _ _ _ _ (T10.setTop (mkF m 76 #[.val (.int x1), .val (.int x2), .val (.int x3), .val (.int x4), .val (.int x5), .val (.long x6), .second, .val (.ref b1), .val (.ref s1), .val (.ref b2), .val (.ref s2), .val (.ref b3), .unset, .unset, .unset, .unset, .unset, .unset, .unset, .unset, .unset, .unset, .unset] [(.int (16 : Int32)), (.int x1), (.int (0 : Int32)), (.ref b3)]))
  refine Go.of (fun _ q => XS.iushr X10.here hx rfl (hb hby at_76) rfl q) ?_
  show Go _ _ _ _ _ _ _ (T10.setTop (mkF m 77 #[.val (.int x1), .val (.int x2), .val (.int x3), .val (.int x4), .val (.int x5), .val (.long x6), .second, .val (.ref b1), .val (.ref s1), .val (.ref b2), .val (.ref s2), .val (.ref b3), .unset, .unset, .unset, .unset, .unset, .unset, .unset, .unset, .unset, .unset, .unset] [(.int ((x1.toUInt32 >>> ((16 : Int32) &&& 31).toUInt32).toInt32)), (.int (0 : Int32)), (.ref b3)]))
  refine Go.of (fun _ q => XS.sipush X10.here hx rfl (hb hby at_77) q) ?_
  show Go _ _ _ _ _ _ _ (T10.setTop (mkF m 80 #[.val (.int x1), .val (.int x2), .val (.int x3), .val (.int x4), .val (.int x5), .val (.long x6), .second, .val (.ref b1), .val (.ref s1), .val (.ref b2), .val (.ref s2), .val (.ref b3), .unset, .unset, .unset, .unset, .unset, .unset, .unset, .unset, .unset, .unset, .unset] [(.int (255 : Int32)), (.int ((x1.toUInt32 >>> ((16 : Int32) &&& 31).toUInt32).toInt32)), (.int (0 : Int32)), (.ref b3)]))
  refine Go.of (fun _ q => XS.iand X10.here hx rfl (hb hby at_80) rfl q) ?_
  show Go _ _ _ _ _ _ _ (T10.setTop (mkF m 81 #[.val (.int x1), .val (.int x2), .val (.int x3), .val (.int x4), .val (.int x5), .val (.long x6), .second, .val (.ref b1), .val (.ref s1), .val (.ref b2), .val (.ref s2), .val (.ref b3), .unset, .unset, .unset, .unset, .unset, .unset, .unset, .unset, .unset, .unset, .unset] [(.int (((x1.toUInt32 >>> ((16 : Int32) &&& 31).toUInt32).toInt32) &&& (255 : Int32))), (.int (0 : Int32)), (.ref b3)]))
  refine Go.of (fun _ q => XS.i2c X10.here hx rfl (hb hby at_81) rfl q) ?_
  show Go _ _ _ _ _ _ _ (T10.setTop (mkF m 82 #[.val (.int x1), .val (.int x2), .val (.int x3), .val (.int x4), .val (.int x5), .val (.long x6), .second, .val (.ref b1), .val (.ref s1), .val (.ref b2), .val (.ref s2), .val (.ref b3), .unset, .unset, .unset, .unset, .unset, .unset, .unset, .unset, .unset, .unset, .unset] [(.int ((((x1.toUInt32 >>> ((16 : Int32) &&& 31).toUInt32).toInt32) &&& (255 : Int32)).toUInt32.toUInt16.toUInt32.toInt32)), (.int (0 : Int32)), (.ref b3)]))
  obtain ⟨T11, h11, X11, e11, W11, A11', st11⟩ := AF.castore A_b3 X10 hx hZ e10 (i := 0) ⟨rfl, by decide, by decide⟩ (g := (mkF m 82 #[.val (.int x1), .val (.int x2), .val (.int x3), .val (.int x4), .val (.int x5), .val (.long x6), .second, .val (.ref b1), .val (.ref s1), .val (.ref b2), .val (.ref s2), .val (.ref b3), .unset, .unset, .unset, .unset, .unset, .unset, .unset, .unset, .unset, .unset, .unset] [(.int ((((x1.toUInt32 >>> ((16 : Int32) &&& 31).toUInt32).toInt32) &&& (255 : Int32)).toUInt32.toUInt16.toUInt32.toInt32)), (.int (0 : Int32)), (.ref b3)])) rfl rfl (hb hby at_82)
  refine Go.of st11 ?_
  have Zs := Nat.le_trans Zs (Nat.le_of_eq W11.size.symm)
  have Kp := Kp.wr W11 (Or.inr sz_b3)
  have Od := Od.wr W11 g_b3
  have E_b1 := E_b1.wr W11
  have A_b1 := A_b1.other W11 ne_b1_b3
  have E_s1 := E_s1.wr W11
  have F_s1_value := F_s1_value.other W11 (Or.inl ne_s1_b3)
  have F_s1_coder := F_s1_coder.other W11 (Or.inl ne_s1_b3)
  have A_d1 := A_d1.other W11 ne_d1_b3
  have E_b2 := E_b2.wr W11
  have A_b2 := A_b2.other W11 ne_b2_b3
  have E_s2 := E_s2.wr W11
  have F_s2_value := F_s2_value.other W11 (Or.inl ne_s2_b3)
  have F_s2_coder := F_s2_coder.other W11 (Or.inl ne_s2_b3)
  have A_d2 := A_d2.other W11 ne_d2_b3
  have E_b3 := E_b3.wr W11
  have A_b3 : AF Z h11 b3 k10 .char 1 (fun i => .int ((upI (fun _ => (0 : Int32)) 0 (((((x1.toUInt32 >>> ((16 : Int32) &&& 31).toUInt32).toInt32) &&& (255 : Int32)).toUInt32.toUInt16.toUInt32.toInt32).toUInt32.toUInt16.toUInt32.toInt32)) i)) := A11'.toI
  have N11 := Fr.snoc X11 N9 g_b3
  show Go _ _ _ _ _ _ _ (T11.setTop (mkF m 83 #[.val (.int x1), .val (.int x2), .val (.int x3), .val (.int x4), .val (.int x5), .val (.long x6), .second, .val (.ref b1), .val (.ref s1), .val (.ref b2), .val (.ref s2), .val (.ref b3), .unset, .unset, .unset, .unset, .unset, .unset, .unset, .unset, .unset, .unset, .unset] []))
  obtain ⟨T12, h12, X12, e12, E12, A12, D12, -, st12⟩ := newO X11 hx hZ hown (hw _ (List.mem_of_getElem? (i := 1) rfl)) (hw _ (List.mem_of_getElem? (i := 2) rfl)) (hw _ (List.mem_of_getElem? (i := 3) rfl)) e11 (g := (mkF m 83 #[.val (.int x1), .val (.int x2), .val (.int x3), .val (.int x4), .val (.int x5), .val (.long x6), .second, .val (.ref b1), .val (.ref s1), .val (.ref b2), .val (.ref s2), .val (.ref b3), .unset, .unset, .unset, .unset, .unset, .unset, .unset, .unset, .unset, .unset, .unset] [])) rfl (hb hby at_83) (by decide) (by decide)
  obtain ⟨s3, g12⟩ : ∃ z, z = h11.size := ⟨_, rfl⟩
  rw [← g12] at A12 D12 st12
  refine Go.of st12 ?_
  have g_s3 : n0 ≤ s3 := Nat.le_trans Zs (Nat.le_of_eq g12.symm)
  have sz_s3 : h0.size ≤ s3 := Nat.le_trans Kp.1 (Nat.le_of_eq g12.symm)
  have ne_b1_s3 : b1 ≠ s3 := Nat.ne_of_lt (Nat.lt_of_lt_of_le E_b1.lt (Nat.le_of_eq g12.symm))
  have ne_s1_s3 : s1 ≠ s3 := Nat.ne_of_lt (Nat.lt_of_lt_of_le E_s1.lt (Nat.le_of_eq g12.symm))
  have ne_d1_s3 : d1 ≠ s3 := Nat.ne_of_lt (Nat.lt_of_lt_of_le A_d1.lt (Nat.le_of_eq g12.symm))
  have ne_b2_s3 : b2 ≠ s3 := Nat.ne_of_lt (Nat.lt_of_lt_of_le E_b2.lt (Nat.le_of_eq g12.symm))
  have ne_s2_s3 : s2 ≠ s3 := Nat.ne_of_lt (Nat.lt_of_lt_of_le E_s2.lt (Nat.le_of_eq g12.symm))
  have ne_d2_s3 : d2 ≠ s3 := Nat.ne_of_lt (Nat.lt_of_lt_of_le A_d2.lt (Nat.le_of_eq g12.symm))
  have ne_b3_s3 : b3 ≠ s3 := Nat.ne_of_lt (Nat.lt_of_lt_of_le E_b3.lt (Nat.le_of_eq g12.symm))
  have Zs := Nat.le_trans Zs E12.1
  have Kp := Kp.ext E12
  have Od := Od.ext E12
  have E_b1 := E_b1.ext E12
  have A_b1 := A_b1.ext E12
  have E_s1 := E_s1.ext E12
  have F_s1_value := F_s1_value.ext E12
  have F_s1_coder := F_s1_coder.ext E12
  have A_d1 := A_d1.ext E12
  have E_b2 := E_b2.ext E12
  have A_b2 := A_b2.ext E12
  have E_s2 := E_s2.ext E12
  have F_s2_value := F_s2_value.ext E12
  have F_s2_coder := F_s2_coder.ext E12
  have A_d2 := A_d2.ext E12
  have E_b3 := E_b3.ext E12
  have A_b3 := A_b3.ext E12
  have E_s3 := A12
  have F_s3_coder : Fld Z h12 s3 "java/lang/String" "coder" "B" (.int (0 : Int32)) := D12 (Or.inr (hw _ (List.mem_of_getElem? (i := 27) rfl))) (ty := .byte) (by decide)
  have F_s3_value : Fld Z h12 s3 "java/lang/String" "value" "[B" .null := D12 (Or.inr (hw _ (List.mem_of_getElem? (i := 29) rfl))) (ty := (.array .byte)) (by decide)
  show Go _ _ _ _ _ _ _ (T12.setTop (mkF m 86 #[.val (.int x1), .val (.int x2), .val (.int x3), .val (.int x4), .val (.int x5), .val (.long x6), .second, .val (.ref b1), .val (.ref s1), .val (.ref b2), .val (.ref s2), .val (.ref b3), .unset, .unset, .unset, .unset, .unset, .unset, .unset, .unset, .unset, .unset, .unset] [(.ref s3)]))
  refine Go.of (fun _ q => XS.dup X12.here hx rfl (hb hby at_86) rfl rfl q) ?_
  show Go _ _ _ _ _ _ _ (T12.setTop (mkF m 87 #[.val (.int x1), .val (.int x2), .val (.int x3), .val (.int x4), .val (.int x5), .val (.long x6), .second, .val (.ref b1), .val (.ref s1), .val (.ref b2), .val (.ref s2), .val (.ref b3), .unset, .unset, .unset, .unset, .unset, .unset, .unset, .unset, .unset, .unset, .unset] [(.ref s3), (.ref s3)]))
  refine Go.of (fun _ q => XS.aload X12.here hx rfl (hb hby at_87) rfl rfl q) ?_
  show Go _ _ _ _ _ _ _ (T12.setTop (mkF m 89 #[.val (.int x1), .val (.int x2), .val (.int x3), .val (.int x4), .val (.int x5), .val (.long x6), .second, .val (.ref b1), .val (.ref s1), .val (.ref b2), .val (.ref s2), .val (.ref b3), .unset, .unset, .unset, .unset, .unset, .unset, .unset, .unset, .unset, .unset, .unset] [(.ref b3), (.ref s3), (.ref s3)]))
  refine Go.special X12 hx hZ (y := (⟨"java/lang/String", "<init>", "([C)V"⟩ : MethodName)) (a := s3) (argsL := [(.ref b3)]) rfl hown (hw _ (List.mem_of_getElem? (i := 4) rfl)) (hw _ (List.mem_of_getElem? (i := 5) rfl)) (hw _ (List.mem_of_getElem? (i := 3) rfl)) (hw _ (List.mem_of_getElem? (i := 6) rfl)) (by decide) 1 e12 (rm1_s1 l Z a0 hw s3 b3 k10 (upI (fun _ => (0 : Int32)) 0 (((((x1.toUInt32 >>> ((16 : Int32) &&& 31).toUInt32).toInt32) &&& (255 : Int32)).toUInt32.toUInt16.toUInt32.toInt32).toUInt32.toUInt16.toUInt32.toInt32)) .null (0 : Int32) cs h12 n0 Zs Od E_s3 F_s3_value F_s3_coder g_s3 A_b3 ne_b3_s3 (fun i hi => by rcases (show i = 0 by omega) with rfl; exact own_chr2 _) Scs hcs) (by decide) (by decide) (by decide) (by decide) (g := (mkF m 89 #[.val (.int x1), .val (.int x2), .val (.int x3), .val (.int x4), .val (.int x5), .val (.long x6), .second, .val (.ref b1), .val (.ref s1), .val (.ref b2), .val (.ref s2), .val (.ref b3), .unset, .unset, .unset, .unset, .unset, .unset, .unset, .unset, .unset, .unset, .unset] [(.ref b3), (.ref s3), (.ref s3)])) rfl (by rw [hml]; rfl) (rest := [(.ref s3)]) (lenOf pd5 rfl) rfl (by show 2 * 0 + _ ≤ _; exact Nat.le_of_eq rfl) (hb hby at_89) ?_
  intro T13 v13 L13 X13 q13
  obtain ⟨d3, kd3, rfl, Nq13, K13, f13_0, f13_1, f13_2, f13_3, f13_4⟩ := q13
  have N13 := Fr.app N11 Nq13
  have g_d3 : n0 ≤ d3 := Nat.le_trans Zs f13_0
  have sz_d3 : h0.size ≤ d3 := Nat.le_trans Kp.1 f13_0
  have ne_b1_d3 : b1 ≠ d3 := Nat.ne_of_lt (Nat.lt_of_lt_of_le E_b1.lt f13_0)
  have ne_s1_d3 : s1 ≠ d3 := Nat.ne_of_lt (Nat.lt_of_lt_of_le E_s1.lt f13_0)
  have ne_d1_d3 : d1 ≠ d3 := Nat.ne_of_lt (Nat.lt_of_lt_of_le A_d1.lt f13_0)
  have ne_b2_d3 : b2 ≠ d3 := Nat.ne_of_lt (Nat.lt_of_lt_of_le E_b2.lt f13_0)
  have ne_s2_d3 : s2 ≠ d3 := Nat.ne_of_lt (Nat.lt_of_lt_of_le E_s2.lt f13_0)
  have ne_d2_d3 : d2 ≠ d3 := Nat.ne_of_lt (Nat.lt_of_lt_of_le A_d2.lt f13_0)
  have ne_b3_d3 : b3 ≠ d3 := Nat.ne_of_lt (Nat.lt_of_lt_of_le E_b3.lt f13_0)
  have ne_s3_d3 : s3 ≠ d3 := Nat.ne_of_lt (Nat.lt_of_lt_of_le E_s3.lt f13_0)
  have Zs := Nat.le_trans Zs K13.1
  have Kp := Kp.trans K13 (allS (P := fun x => x ∈ [] ∨ h0.size ≤ x) (Or.inr sz_s3) all0)
  have Od := Od.keep K13 (allS (P := fun x => n0 ≤ x) g_s3 all0)
  have E_b1 := E_b1.keep K13
  have A_b1 := A_b1.keep K13 (ninS ne_b1_s3 nin0)
  have E_s1 := E_s1.keep K13
  have F_s1_value := F_s1_value.keep K13 (ninS ne_s1_s3 nin0)
  have F_s1_coder := F_s1_coder.keep K13 (ninS ne_s1_s3 nin0)
  have A_d1 := A_d1.keep K13 (ninS ne_d1_s3 nin0)
  have E_b2 := E_b2.keep K13
  have A_b2 := A_b2.keep K13 (ninS ne_b2_s3 nin0)
  have E_s2 := E_s2.keep K13
  have F_s2_value := F_s2_value.keep K13 (ninS ne_s2_s3 nin0)
  have F_s2_coder := F_s2_coder.keep K13 (ninS ne_s2_s3 nin0)
  have A_d2 := A_d2.keep K13 (ninS ne_d2_s3 nin0)
  have E_b3 := E_b3.keep K13
  have A_b3 := A_b3.keep K13 (ninS ne_b3_s3 nin0)
  have E_s3 := E_s3.keep K13
  have F_s3_value := f13_2
  have F_s3_coder := f13_3
  have A_d3 := f13_4
  show Go _ _ _ _ _ _ _ (T13.setTop (mkF m 92 #[.val (.int x1), .val (.int x2), .val (.int x3), .val (.int x4), .val (.int x5), .val (.long x6), .second, .val (.ref b1), .val (.ref s1), .val (.ref b2), .val (.ref s2), .val (.ref b3), .unset, .unset, .unset, .unset, .unset, .unset, .unset, .unset, .unset, .unset, .unset] [(.ref s3)]))
  refine Go.of (fun _ q => XS.astore X13.here hx rfl (hb hby at_92) rfl rfl (l' := #[.val (.int x1), .val (.int x2), .val (.int x3), .val (.int x4), .val (.int x5), .val (.long x6), .second, .val (.ref b1), .val (.ref s1), .val (.ref b2), .val (.ref s2), .val (.ref b3), .val (.ref s3), .unset, .unset, .unset, .unset, .unset, .unset, .unset, .unset, .unset, .unset]) rfl q) ?_
  show Go _ _ _ _ _ _ _ (T13.setTop (mkF m 94 #[.val (.int x1), .val (.int x2), .val (.int x3), .val (.int x4), .val (.int x5), .val (.long x6), .second, .val (.ref b1), .val (.ref s1), .val (.ref b2), .val (.ref s2), .val (.ref b3), .val (.ref s3), .unset, .unset, .unset, .unset, .unset, .unset, .unset, .unset, .unset, .unset] []))
  obtain ⟨T14, h14, X14, e14, E14, A14, D14, -, st14⟩ := newO X13 hx hZ hown (hw _ (List.mem_of_getElem? (i := 30) rfl)) (hw _ (List.mem_of_getElem? (i := 31) rfl)) (hw _ (List.mem_of_getElem? (i := 32) rfl)) rfl (g := (mkF m 94 #[.val (.int x1), .val (.int x2), .val (.int x3), .val (.int x4), .val (.int x5), .val (.long x6), .second, .val (.ref b1), .val (.ref s1), .val (.ref b2), .val (.ref s2), .val (.ref b3), .val (.ref s3), .unset, .unset, .unset, .unset, .unset, .unset, .unset, .unset, .unset, .unset] [])) rfl (hb hby at_94) (by decide) (by decide)
  obtain ⟨n1, g14⟩ : ∃ z, z = T13.heap.size := ⟨_, rfl⟩
  rw [← g14] at A14 D14 st14
  refine Go.of st14 ?_
  have g_n1 : n0 ≤ n1 := Nat.le_trans Zs (Nat.le_of_eq g14.symm)
  have sz_n1 : h0.size ≤ n1 := Nat.le_trans Kp.1 (Nat.le_of_eq g14.symm)
  have ne_b1_n1 : b1 ≠ n1 := Nat.ne_of_lt (Nat.lt_of_lt_of_le E_b1.lt (Nat.le_of_eq g14.symm))
  have ne_s1_n1 : s1 ≠ n1 := Nat.ne_of_lt (Nat.lt_of_lt_of_le E_s1.lt (Nat.le_of_eq g14.symm))
  have ne_d1_n1 : d1 ≠ n1 := Nat.ne_of_lt (Nat.lt_of_lt_of_le A_d1.lt (Nat.le_of_eq g14.symm))
  have ne_b2_n1 : b2 ≠ n1 := Nat.ne_of_lt (Nat.lt_of_lt_of_le E_b2.lt (Nat.le_of_eq g14.symm))
  have ne_s2_n1 : s2 ≠ n1 := Nat.ne_of_lt (Nat.lt_of_lt_of_le E_s2.lt (Nat.le_of_eq g14.symm))
  have ne_d2_n1 : d2 ≠ n1 := Nat.ne_of_lt (Nat.lt_of_lt_of_le A_d2.lt (Nat.le_of_eq g14.symm))
  have ne_b3_n1 : b3 ≠ n1 := Nat.ne_of_lt (Nat.lt_of_lt_of_le E_b3.lt (Nat.le_of_eq g14.symm))
  have ne_s3_n1 : s3 ≠ n1 := Nat.ne_of_lt (Nat.lt_of_lt_of_le E_s3.lt (Nat.le_of_eq g14.symm))
  have ne_d3_n1 : d3 ≠ n1 := Nat.ne_of_lt (Nat.lt_of_lt_of_le A_d3.lt (Nat.le_of_eq g14.symm))
  have Zs := Nat.le_trans Zs E14.1
  have Kp := Kp.ext E14
  have Od := Od.ext E14
  have E_b1 := E_b1.ext E14
  have A_b1 := A_b1.ext E14
  have E_s1 := E_s1.ext E14
  have F_s1_value := F_s1_value.ext E14
  have F_s1_coder := F_s1_coder.ext E14
  have A_d1 := A_d1.ext E14
  have E_b2 := E_b2.ext E14
  have A_b2 := A_b2.ext E14
  have E_s2 := E_s2.ext E14
  have F_s2_value := F_s2_value.ext E14
  have F_s2_coder := F_s2_coder.ext E14
  have A_d2 := A_d2.ext E14
  have E_b3 := E_b3.ext E14
  have A_b3 := A_b3.ext E14
  have E_s3 := E_s3.ext E14
  have F_s3_value := F_s3_value.ext E14
  have F_s3_coder := F_s3_coder.ext E14
  have A_d3 := A_d3.ext E14
  have E_n1 := A14
  have F_n1_host : Fld Z h14 n1 "com/example/lane/lane/config/HostPort" "host" "Ljava/lang/String;" .null := D14 (Or.inr (hw _ (List.mem_of_getElem? (i := 43) rfl))) (ty := (.object "java/lang/String")) (by decide)
  have F_n1_port : Fld Z h14 n1 "com/example/lane/lane/config/HostPort" "port" "I" (.int (0 : Int32)) := D14 (Or.inr (hw _ (List.mem_of_getElem? (i := 45) rfl))) (ty := .int) (by decide)
  show Go _ _ _ _ _ _ _ (T14.setTop (mkF m 97 #[.val (.int x1), .val (.int x2), .val (.int x3), .val (.int x4), .val (.int x5), .val (.long x6), .second, .val (.ref b1), .val (.ref s1), .val (.ref b2), .val (.ref s2), .val (.ref b3), .val (.ref s3), .unset, .unset, .unset, .unset, .unset, .unset, .unset, .unset, .unset, .unset] [(.ref n1)]))
  refine Go.of (fun _ q => XS.dup X14.here hx rfl (hb hby at_97) rfl rfl q) ?_
  show Go _ _ _ _ _ _ _ (T14.setTop (mkF m 98 #[.val (.int x1), .val (.int x2), .val (.int x3), .val (.int x4), .val (.int x5), .val (.long x6), .second, .val (.ref b1), .val (.ref s1), .val (.ref b2), .val (.ref s2), .val (.ref b3), .val (.ref s3), .unset, .unset, .unset, .unset, .unset, .unset, .unset, .unset, .unset, .unset] [(.ref n1), (.ref n1)]))
  refine Go.of (fun _ q => XS.aload X14.here hx rfl (hb hby at_98) rfl rfl q) ?_
  show Go _ _ _ _ _ _ _ (T14.setTop (mkF m 100 #[.val (.int x1), .val (.int x2), .val (.int x3), .val (.int x4), .val (.int x5), .val (.long x6), .second, .val (.ref b1), .val (.ref s1), .val (.ref b2), .val (.ref s2), .val (.ref b3), .val (.ref s3), .unset, .unset, .unset, .unset, .unset, .unset, .unset, .unset, .unset, .unset] [(.ref s1), (.ref n1), (.ref n1)]))
  refine Go.of (fun _ q => XS.iloadN X14.here hx rfl (hb hby at_100) rfl q) ?_
  show Go _ _ _ _ _ _ _ (T14.setTop (mkF m 101 #[.val (.int x1), .val (.int x2), .val (.int x3), .val (.int x4), .val (.int x5), .val (.long x6), .second, .val (.ref b1), .val (.ref s1), .val (.ref b2), .val (.ref s2), .val (.ref b3), .val (.ref s3), .unset, .unset, .unset, .unset, .unset, .unset, .unset, .unset, .unset, .unset] [(.int x3), (.ref s1), (.ref n1), (.ref n1)]))
  refine Go.special X14 hx hZ (y := (⟨"com/example/lane/lane/config/HostPort", "<init>", "(Ljava/lang/String;I)V"⟩ : MethodName)) (a := n1) (argsL := [(.ref s1), (.int x3)]) rfl hown (hw _ (List.mem_of_getElem? (i := 33) rfl)) (hw _ (List.mem_of_getElem? (i := 34) rfl)) (hw _ (List.mem_of_getElem? (i := 32) rfl)) (hw _ (List.mem_of_getElem? (i := 35) rfl)) (by decide) 1 e14 (rm7 l Z a0 hw n1 s1 x3 .null (0 : Int32) h14 n0 Zs E_n1 F_n1_host F_n1_port g_n1) (by decide) (by decide) (by decide) (by decide) (g := (mkF m 101 #[.val (.int x1), .val (.int x2), .val (.int x3), .val (.int x4), .val (.int x5), .val (.long x6), .second, .val (.ref b1), .val (.ref s1), .val (.ref b2), .val (.ref s2), .val (.ref b3), .val (.ref s3), .unset, .unset, .unset, .unset, .unset, .unset, .unset, .unset, .unset, .unset] [(.int x3), (.ref s1), (.ref n1), (.ref n1)])) rfl (by rw [hml]; rfl) (rest := [(.ref n1)]) (lenOf pd6 rfl) rfl (by show 2 * 0 + _ ≤ _; exact Nat.le_of_eq rfl) (hb hby at_101) ?_
  intro T15 v15 L15 X15 q15
  obtain ⟨rfl, Nq15, K15, f15_0⟩ := q15
  have N15 := Fr.app N13 Nq15
  have Zs := Nat.le_trans Zs K15.1
  have Kp := Kp.trans K15 (allS (P := fun x => x ∈ [] ∨ h0.size ≤ x) (Or.inr sz_n1) all0)
  have Od := Od.keep K15 (allS (P := fun x => n0 ≤ x) g_n1 all0)
  have E_b1 := E_b1.keep K15
  have A_b1 := A_b1.keep K15 (ninS ne_b1_n1 nin0)
  have E_s1 := E_s1.keep K15
  have F_s1_value := F_s1_value.keep K15 (ninS ne_s1_n1 nin0)
  have F_s1_coder := F_s1_coder.keep K15 (ninS ne_s1_n1 nin0)
  have A_d1 := A_d1.keep K15 (ninS ne_d1_n1 nin0)
  have E_b2 := E_b2.keep K15
  have A_b2 := A_b2.keep K15 (ninS ne_b2_n1 nin0)
  have E_s2 := E_s2.keep K15
  have F_s2_value := F_s2_value.keep K15 (ninS ne_s2_n1 nin0)
  have F_s2_coder := F_s2_coder.keep K15 (ninS ne_s2_n1 nin0)
  have A_d2 := A_d2.keep K15 (ninS ne_d2_n1 nin0)
  have E_b3 := E_b3.keep K15
  have A_b3 := A_b3.keep K15 (ninS ne_b3_n1 nin0)
  have E_s3 := E_s3.keep K15
  have F_s3_value := F_s3_value.keep K15 (ninS ne_s3_n1 nin0)
  have F_s3_coder := F_s3_coder.keep K15 (ninS ne_s3_n1 nin0)
  have A_d3 := A_d3.keep K15 (ninS ne_d3_n1 nin0)
  have E_n1 := E_n1.keep K15
  show Go _ _ _ _ _ _ _ (T15.setTop (mkF m 104 #[.val (.int x1), .val (.int x2), .val (.int x3), .val (.int x4), .val (.int x5), .val (.long x6), .second, .val (.ref b1), .val (.ref s1), .val (.ref b2), .val (.ref s2), .val (.ref b3), .val (.ref s3), .unset, .unset, .unset, .unset, .unset, .unset, .unset, .unset, .unset, .unset] [(.ref n1)]))
  refine Go.of (fun _ q => XS.astore X15.here hx rfl (hb hby at_104) rfl rfl (l' := #[.val (.int x1), .val (.int x2), .val (.int x3), .val (.int x4), .val (.int x5), .val (.long x6), .second, .val (.ref b1), .val (.ref s1), .val (.ref b2), .val (.ref s2), .val (.ref b3), .val (.ref s3), .val (.ref n1), .unset, .unset, .unset, .unset, .unset, .unset, .unset, .unset, .unset]) rfl q) ?_
  show Go _ _ _ _ _ _ _ (T15.setTop (mkF m 106 #[.val (.int x1), .val (.int x2), .val (.int x3), .val (.int x4), .val (.int x5), .val (.long x6), .second, .val (.ref b1), .val (.ref s1), .val (.ref b2), .val (.ref s2), .val (.ref b3), .val (.ref s3), .val (.ref n1), .unset, .unset, .unset, .unset, .unset, .unset, .unset, .unset, .unset] []))
  obtain ⟨T16, h16, X16, e16, E16, A16, D16, -, st16⟩ := newO X15 hx hZ hown (hw _ (List.mem_of_getElem? (i := 30) rfl)) (hw _ (List.mem_of_getElem? (i := 31) rfl)) (hw _ (List.mem_of_getElem? (i := 32) rfl)) rfl (g := (mkF m 106 #[.val (.int x1), .val (.int x2), .val (.int x3), .val (.int x4), .val (.int x5), .val (.long x6), .second, .val (.ref b1), .val (.ref s1), .val (.ref b2), .val (.ref s2), .val (.ref b3), .val (.ref s3), .val (.ref n1), .unset, .unset, .unset, .unset, .unset, .unset, .unset, .unset, .unset] [])) rfl (hb hby at_106) (by decide) (by decide)
  obtain ⟨n2, g16⟩ : ∃ z, z = T15.heap.size := ⟨_, rfl⟩
  rw [← g16] at A16 D16 st16
  refine Go.of st16 ?_
  have g_n2 : n0 ≤ n2 := Nat.le_trans Zs (Nat.le_of_eq g16.symm)
  have sz_n2 : h0.size ≤ n2 := Nat.le_trans Kp.1 (Nat.le_of_eq g16.symm)
  have ne_b1_n2 : b1 ≠ n2 := Nat.ne_of_lt (Nat.lt_of_lt_of_le E_b1.lt (Nat.le_of_eq g16.symm))
  have ne_s1_n2 : s1 ≠ n2 := Nat.ne_of_lt (Nat.lt_of_lt_of_le E_s1.lt (Nat.le_of_eq g16.symm))
  have ne_d1_n2 : d1 ≠ n2 := Nat.ne_of_lt (Nat.lt_of_lt_of_le A_d1.lt (Nat.le_of_eq g16.symm))
  have ne_b2_n2 : b2 ≠ n2 := Nat.ne_of_lt (Nat.lt_of_lt_of_le E_b2.lt (Nat.le_of_eq g16.symm))
  have ne_s2_n2 : s2 ≠ n2 := Nat.ne_of_lt (Nat.lt_of_lt_of_le E_s2.lt (Nat.le_of_eq g16.symm))
  have ne_d2_n2 : d2 ≠ n2 := Nat.ne_of_lt (Nat.lt_of_lt_of_le A_d2.lt (Nat.le_of_eq g16.symm))
  have ne_b3_n2 : b3 ≠ n2 := Nat.ne_of_lt (Nat.lt_of_lt_of_le E_b3.lt (Nat.le_of_eq g16.symm))
  have ne_s3_n2 : s3 ≠ n2 := Nat.ne_of_lt (Nat.lt_of_lt_of_le E_s3.lt (Nat.le_of_eq g16.symm))
  have ne_d3_n2 : d3 ≠ n2 := Nat.ne_of_lt (Nat.lt_of_lt_of_le A_d3.lt (Nat.le_of_eq g16.symm))
  have ne_n1_n2 : n1 ≠ n2 := Nat.ne_of_lt (Nat.lt_of_lt_of_le E_n1.lt (Nat.le_of_eq g16.symm))
  have Zs := Nat.le_trans Zs E16.1
  have Kp := Kp.ext E16
  have Od := Od.ext E16
  have E_b1 := E_b1.ext E16
  have A_b1 := A_b1.ext E16
  have E_s1 := E_s1.ext E16
  have F_s1_value := F_s1_value.ext E16
  have F_s1_coder := F_s1_coder.ext E16
  have A_d1 := A_d1.ext E16
  have E_b2 := E_b2.ext E16
  have A_b2 := A_b2.ext E16
  have E_s2 := E_s2.ext E16
  have F_s2_value := F_s2_value.ext E16
  have F_s2_coder := F_s2_coder.ext E16
  have A_d2 := A_d2.ext E16
  have E_b3 := E_b3.ext E16
  have A_b3 := A_b3.ext E16
  have E_s3 := E_s3.ext E16
  have F_s3_value := F_s3_value.ext E16
  have F_s3_coder := F_s3_coder.ext E16
  have A_d3 := A_d3.ext E16
  have E_n1 := E_n1.ext E16
  have E_n2 := A16
  have F_n2_host : Fld Z h16 n2 "com/example/lane/lane/config/HostPort" "host" "Ljava/lang/String;" .null := D16 (Or.inr (hw _ (List.mem_of_getElem? (i := 43) rfl))) (ty := (.object "java/lang/String")) (by decide)
  have F_n2_port : Fld Z h16 n2 "com/example/lane/lane/config/HostPort" "port" "I" (.int (0 : Int32)) := D16 (Or.inr (hw _ (List.mem_of_getElem? (i := 45) rfl))) (ty := .int) (by decide)
  show Go _ _ _ _ _ _ _ (T16.setTop (mkF m 109 #[.val (.int x1), .val (.int x2), .val (.int x3), .val (.int x4), .val (.int x5), .val (.long x6), .second, .val (.ref b1), .val (.ref s1), .val (.ref b2), .val (.ref s2), .val (.ref b3), .val (.ref s3), .val (.ref n1), .unset, .unset, .unset, .unset, .unset, .unset, .unset, .unset, .unset] [(.ref n2)]))
  refine Go.of (fun _ q => XS.dup X16.here hx rfl (hb hby at_109) rfl rfl q) ?_
  show Go _ _ _ _ _ _ _ (T16.setTop (mkF m 110 #[.val (.int x1), .val (.int x2), .val (.int x3), .val (.int x4), .val (.int x5), .val (.long x6), .second, .val (.ref b1), .val (.ref s1), .val (.ref b2), .val (.ref s2), .val (.ref b3), .val (.ref s3), .val (.ref n1), .unset, .unset, .unset, .unset, .unset, .unset, .unset, .unset, .unset] [(.ref n2), (.ref n2)]))
  refine Go.of (fun _ q => XS.aload X16.here hx rfl (hb hby at_110) rfl rfl q) ?_
  show Go _ _ _ _ _ _ _ (T16.setTop (mkF m 112 #[.val (.int x1), .val (.int x2), .val (.int x3), .val (.int x4), .val (.int x5), .val (.long x6), .second, .val (.ref b1), .val (.ref s1), .val (.ref b2), .val (.ref s2), .val (.ref b3), .val (.ref s3), .val (.ref n1), .unset, .unset, .unset, .unset, .unset, .unset, .unset, .unset, .unset] [(.ref s2), (.ref n2), (.ref n2)]))
  refine Go.of (fun _ q => XS.iloadN X16.here hx rfl (hb hby at_112) rfl q) ?_
  show Go _ _ _ _ _ _ _ (T16.setTop (mkF m 113 #[.val (.int x1), .val (.int x2), .val (.int x3), .val (.int x4), .val (.int x5), .val (.long x6), .second, .val (.ref b1), .val (.ref s1), .val (.ref b2), .val (.ref s2), .val (.ref b3), .val (.ref s3), .val (.ref n1), .unset, .unset, .unset, .unset, .unset, .unset, .unset, .unset, .unset] [(.int x4), (.ref s2), (.ref n2), (.ref n2)]))
  refine Go.special X16 hx hZ (y := (⟨"com/example/lane/lane/config/HostPort", "<init>", "(Ljava/lang/String;I)V"⟩ : MethodName)) (a := n2) (argsL := [(.ref s2), (.int x4)]) rfl hown (hw _ (List.mem_of_getElem? (i := 33) rfl)) (hw _ (List.mem_of_getElem? (i := 34) rfl)) (hw _ (List.mem_of_getElem? (i := 32) rfl)) (hw _ (List.mem_of_getElem? (i := 35) rfl)) (by decide) 1 e16 (rm7 l Z a0 hw n2 s2 x4 .null (0 : Int32) h16 n0 Zs E_n2 F_n2_host F_n2_port g_n2) (by decide) (by decide) (by decide) (by decide) (g := (mkF m 113 #[.val (.int x1), .val (.int x2), .val (.int x3), .val (.int x4), .val (.int x5), .val (.long x6), .second, .val (.ref b1), .val (.ref s1), .val (.ref b2), .val (.ref s2), .val (.ref b3), .val (.ref s3), .val (.ref n1), .unset, .unset, .unset, .unset, .unset, .unset, .unset, .unset, .unset] [(.int x4), (.ref s2), (.ref n2), (.ref n2)])) rfl (by rw [hml]; rfl) (rest := [(.ref n2)]) (lenOf pd6 rfl) rfl (by show 2 * 0 + _ ≤ _; exact Nat.le_of_eq rfl) (hb hby at_113) ?_
  intro T17 v17 L17 X17 q17
  obtain ⟨rfl, Nq17, K17, f17_0⟩ := q17
  have N17 := Fr.app N15 Nq17
  have Zs := Nat.le_trans Zs K17.1
  have Kp := Kp.trans K17 (allS (P := fun x => x ∈ [] ∨ h0.size ≤ x) (Or.inr sz_n2) all0)
  have Od := Od.keep K17 (allS (P := fun x => n0 ≤ x) g_n2 all0)
  have E_b1 := E_b1.keep K17
  have A_b1 := A_b1.keep K17 (ninS ne_b1_n2 nin0)
  have E_s1 := E_s1.keep K17
  have F_s1_value := F_s1_value.keep K17 (ninS ne_s1_n2 nin0)
  have F_s1_coder := F_s1_coder.keep K17 (ninS ne_s1_n2 nin0)
  have A_d1 := A_d1.keep K17 (ninS ne_d1_n2 nin0)
  have E_b2 := E_b2.keep K17
  have A_b2 := A_b2.keep K17 (ninS ne_b2_n2 nin0)
  have E_s2 := E_s2.keep K17
  have F_s2_value := F_s2_value.keep K17 (ninS ne_s2_n2 nin0)
  have F_s2_coder := F_s2_coder.keep K17 (ninS ne_s2_n2 nin0)
  have A_d2 := A_d2.keep K17 (ninS ne_d2_n2 nin0)
  have E_b3 := E_b3.keep K17
  have A_b3 := A_b3.keep K17 (ninS ne_b3_n2 nin0)
  have E_s3 := E_s3.keep K17
  have F_s3_value := F_s3_value.keep K17 (ninS ne_s3_n2 nin0)
  have F_s3_coder := F_s3_coder.keep K17 (ninS ne_s3_n2 nin0)
  have A_d3 := A_d3.keep K17 (ninS ne_d3_n2 nin0)
  have E_n1 := E_n1.keep K17
  have E_n2 := E_n2.keep K17
  show Go _ _ _ _ _ _ _ (T17.setTop (mkF m 116 #[.val (.int x1), .val (.int x2), .val (.int x3), .val (.int x4), .val (.int x5), .val (.long x6), .second, .val (.ref b1), .val (.ref s1), .val (.ref b2), .val (.ref s2), .val (.ref b3), .val (.ref s3), .val (.ref n1), .unset, .unset, .unset, .unset, .unset, .unset, .unset, .unset, .unset] [(.ref n2)]))
  refine Go.of (fun _ q => XS.astore X17.here hx rfl (hb hby at_116) rfl rfl (l' := #[.val (.int x1), .val (.int x2), .val (.int x3), .val (.int x4), .val (.int x5), .val (.long x6), .second, .val (.ref b1), .val (.ref s1), .val (.ref b2), .val (.ref s2), .val (.ref b3), .val (.ref s3), .val (.ref n1), .val (.ref n2), .unset, .unset, .unset, .unset, .unset, .unset, .unset, .unset]) rfl q) ?_
  show Go _ _ _ _ _ _ _ (T17.setTop (mkF m 118 #[.val (.int x1), .val (.int x2), .val (.int x3), .val (.int x4), .val (.int x5), .val (.long x6), .second, .val (.ref b1), .val (.ref s1), .val (.ref b2), .val (.ref s2), .val (.ref b3), .val (.ref s3), .val (.ref n1), .val (.ref n2), .unset, .unset, .unset, .unset, .unset, .unset, .unset, .unset] []))
  refine Go.of (fun _ q => XS.iload X17.here hx rfl (hb hby at_118) rfl q) ?_
  show Go _ _ _ _ _ _ _ (T17.setTop (mkF m 120 #[.val (.int x1), .val (.int x2), .val (.int x3), .val (.int x4), .val (.int x5), .val (.long x6), .second, .val (.ref b1), .val (.ref s1), .val (.ref b2), .val (.ref s2), .val (.ref b3), .val (.ref s3), .val (.ref n1), .val (.ref n2), .unset, .unset, .unset, .unset, .unset, .unset, .unset, .unset] [(.int x5)]))
  refine Go.of (fun _ q => XS.iconst X17.here hx rfl (hb hby at_120) q) ?_
  show Go _ _ _ _ _ _ _ (T17.setTop (mkF m 121 #[.val (.int x1), .val (.int x2), .val (.int x3), .val (.int x4), .val (.int x5), .val (.long x6), .second, .val (.ref b1), .val (.ref s1), .val (.ref b2), .val (.ref s2), .val (.ref b3), .val (.ref s3), .val (.ref n1), .val (.ref n2), .unset, .unset, .unset, .unset, .unset, .unset, .unset, .unset] [(.int (1 : Int32)), (.int x5)]))
  refine Go.of (fun _ q => XS.iand X17.here hx rfl (hb hby at_121) rfl q) ?_
  show Go _ _ _ _ _ _ _ (T17.setTop (mkF m 122 #[.val (.int x1), .val (.int x2), .val (.int x3), .val (.int x4), .val (.int x5), .val (.long x6), .second, .val (.ref b1), .val (.ref s1), .val (.ref b2), .val (.ref s2), .val (.ref b3), .val (.ref s3), .val (.ref n1), .val (.ref n2), .unset, .unset, .unset, .unset, .unset, .unset, .unset, .unset] [(.int (x5 &&& (1 : Int32)))]))
  by_cases c122 : (x5 &&& (1 : Int32)) = (0 : Int32)
  · refine Go.of (fun _ q => XS.ifYes X17.here hx rfl (pc0 := 122) (pc' := 129) rfl (hb hby at_122) rfl ((if0 _ _).trans (teq c122).1) (by decide) (by decide) q) ?_
    show Go _ _ _ _ _ _ _ (T17.setTop (mkF m 129 #[.val (.int x1), .val (.int x2), .val (.int x3), .val (.int x4), .val (.int x5), .val (.long x6), .second, .val (.ref b1), .val (.ref s1), .val (.ref b2), .val (.ref s2), .val (.ref b3), .val (.ref s3), .val (.ref n1), .val (.ref n2), .unset, .unset, .unset, .unset, .unset, .unset, .unset, .unset] []))
    refine Go.of (fun _ q => XS.iconst X17.here hx rfl (hb hby at_129) q) ?_
    show Go _ _ _ _ _ _ _ (T17.setTop (mkF m 130 #[.val (.int x1), .val (.int x2), .val (.int x3), .val (.int x4), .val (.int x5), .val (.long x6), .second, .val (.ref b1), .val (.ref s1), .val (.ref b2), .val (.ref s2), .val (.ref b3), .val (.ref s3), .val (.ref n1), .val (.ref n2), .unset, .unset, .unset, .unset, .unset, .unset, .unset, .unset] [(.int (0 : Int32))]))
    refine Go.of (fun _ q => XS.istore X17.here hx rfl (hb hby at_130) rfl (l' := #[.val (.int x1), .val (.int x2), .val (.int x3), .val (.int x4), .val (.int x5), .val (.long x6), .second, .val (.ref b1), .val (.ref s1), .val (.ref b2), .val (.ref s2), .val (.ref b3), .val (.ref s3), .val (.ref n1), .val (.ref n2), .val (.int (0 : Int32)), .unset, .unset, .unset, .unset, .unset, .unset, .unset]) rfl q) ?_
    show Go _ _ _ _ _ _ _ (T17.setTop (mkF m 132 #[.val (.int x1), .val (.int x2), .val (.int x3), .val (.int x4), .val (.int x5), .val (.long x6), .second, .val (.ref b1), .val (.ref s1), .val (.ref b2), .val (.ref s2), .val (.ref b3), .val (.ref s3), .val (.ref n1), .val (.ref n2), .val (.int (0 : Int32)), .unset, .unset, .unset, .unset, .unset, .unset, .unset] []))
    refine Go.of (fun _ q => XS.iload X17.here hx rfl (hb hby at_132) rfl q) ?_
    show Go _ _ _ _ _ _ _ (T17.setTop (mkF m 134 #[.val (.int x1), .val (.int x2), .val (.int x3), .val (.int x4), .val (.int x5), .val (.long x6), .second, .val (.ref b1), .val (.ref s1), .val (.ref b2), .val (.ref s2), .val (.ref b3), .val (.ref s3), .val (.ref n1), .val (.ref n2), .val (.int (0 : Int32)), .unset, .unset, .unset, .unset, .unset, .unset, .unset] [(.int x5)]))
    refine Go.of (fun _ q => XS.iconst X17.here hx rfl (hb hby at_134) q) ?_
    show Go _ _ _ _ _ _ _ (T17.setTop (mkF m 135 #[.val (.int x1), .val (.int x2), .val (.int x3), .val (.int x4), .val (.int x5), .val (.long x6), .second, .val (.ref b1), .val (.ref s1), .val (.ref b2), .val (.ref s2), .val (.ref b3), .val (.ref s3), .val (.ref n1), .val (.ref n2), .val (.int (0 : Int32)), .unset, .unset, .unset, .unset, .unset, .unset, .unset] [(.int (2 : Int32)), (.int x5)]))
    refine Go.of (fun _ q => XS.iand X17.here hx rfl (hb hby at_135) rfl q) ?_
    show Go _ _ _ _ _ _ _ (T17.setTop (mkF m 136 #[.val (.int x1), .val (.int x2), .val (.int x3), .val (.int x4), .val (.int x5), .val (.long x6), .second, .val (.ref b1), .val (.ref s1), .val (.ref b2), .val (.ref s2), .val (.ref b3), .val (.ref s3), .val (.ref n1), .val (.ref n2), .val (.int (0 : Int32)), .unset, .unset, .unset, .unset, .unset, .unset, .unset] [(.int (x5 &&& (2 : Int32)))]))
    by_cases c136 : (x5 &&& (2 : Int32)) = (0 : Int32)
    · refine Go.of (fun _ q => XS.ifYes X17.here hx rfl (pc0 := 136) (pc' := 143) rfl (hb hby at_136) rfl ((if0 _ _).trans (teq c136).1) (by decide) (by decide) q) ?_
      show Go _ _ _ _ _ _ _ (T17.setTop (mkF m 143 #[.val (.int x1), .val (.int x2), .val (.int x3), .val (.int x4), .val (.int x5), .val (.long x6), .second, .val (.ref b1), .val (.ref s1), .val (.ref b2), .val (.ref s2), .val (.ref b3), .val (.ref s3), .val (.ref n1), .val (.ref n2), .val (.int (0 : Int32)), .unset, .unset, .unset, .unset, .unset, .unset, .unset] []))
      refine Go.of (fun _ q => XS.iconst X17.here hx rfl (hb hby at_143) q) ?_
      show Go _ _ _ _ _ _ _ (T17.setTop (mkF m 144 #[.val (.int x1), .val (.int x2), .val (.int x3), .val (.int x4), .val (.int x5), .val (.long x6), .second, .val (.ref b1), .val (.ref s1), .val (.ref b2), .val (.ref s2), .val (.ref b3), .val (.ref s3), .val (.ref n1), .val (.ref n2), .val (.int (0 : Int32)), .unset, .unset, .unset, .unset, .unset, .unset, .unset] [(.int (0 : Int32))]))
      refine Go.of (fun _ q => XS.istore X17.here hx rfl (hb hby at_144) rfl (l' := #[.val (.int x1), .val (.int x2), .val (.int x3), .val (.int x4), .val (.int x5), .val (.long x6), .second, .val (.ref b1), .val (.ref s1), .val (.ref b2), .val (.ref s2), .val (.ref b3), .val (.ref s3), .val (.ref n1), .val (.ref n2), .val (.int (0 : Int32)), .val (.int (0 : Int32)), .unset, .unset, .unset, .unset, .unset, .unset]) rfl q) ?_
      show Go _ _ _ _ _ _ _ (T17.setTop (mkF m 146 #[.val (.int x1), .val (.int x2), .val (.int x3), .val (.int x4), .val (.int x5), .val (.long x6), .second, .val (.ref b1), .val (.ref s1), .val (.ref b2), .val (.ref s2), .val (.ref b3), .val (.ref s3), .val (.ref n1), .val (.ref n2), .val (.int (0 : Int32)), .val (.int (0 : Int32)), .unset, .unset, .unset, .unset, .unset, .unset] []))
      refine Go.of (fun _ q => XS.iload X17.here hx rfl (hb hby at_146) rfl q) ?_
      show Go _ _ _ _ _ _ _ (T17.setTop (mkF m 148 #[.val (.int x1), .val (.int x2), .val (.int x3), .val (.int x4), .val (.int x5), .val (.long x6), .second, .val (.ref b1), .val (.ref s1), .val (.ref b2), .val (.ref s2), .val (.ref b3), .val (.ref s3), .val (.ref n1), .val (.ref n2), .val (.int (0 : Int32)), .val (.int (0 : Int32)), .unset, .unset, .unset, .unset, .unset, .unset] [(.int x5)]))
      refine Go.of (fun _ q => XS.iconst X17.here hx rfl (hb hby at_148) q) ?_
      show Go _ _ _ _ _ _ _ (T17.setTop (mkF m 149 #[.val (.int x1), .val (.int x2), .val (.int x3), .val (.int x4), .val (.int x5), .val (.long x6), .second, .val (.ref b1), .val (.ref s1), .val (.ref b2), .val (.ref s2), .val (.ref b3), .val (.ref s3), .val (.ref n1), .val (.ref n2), .val (.int (0 : Int32)), .val (.int (0 : Int32)), .unset, .unset, .unset, .unset, .unset, .unset] [(.int (4 : Int32)), (.int x5)]))
      refine Go.of (fun _ q => XS.iand X17.here hx rfl (hb hby at_149) rfl q) ?_
      show Go _ _ _ _ _ _ _ (T17.setTop (mkF m 150 #[.val (.int x1), .val (.int x2), .val (.int x3), .val (.int x4), .val (.int x5), .val (.long x6), .second, .val (.ref b1), .val (.ref s1), .val (.ref b2), .val (.ref s2), .val (.ref b3), .val (.ref s3), .val (.ref n1), .val (.ref n2), .val (.int (0 : Int32)), .val (.int (0 : Int32)), .unset, .unset, .unset, .unset, .unset, .unset] [(.int (x5 &&& (4 : Int32)))]))
      have J18 : ∀ (zJ18_0 : Value), zJ18_0 = ((if (x5 &&& (4 : Int32)) = (0 : Int32) then (.ref s2) else .null) : Value) → zJ18_0.isRef = true → Go p e below s room_1.cells room_1.slots (Q0 Z x1 x2 x3 x4 x5 x6 cs h0 n0) (T17.setTop (mkF m 159 #[.val (.int x1), .val (.int x2), .val (.int x3), .val (.int x4), .val (.int x5), .val (.long x6), .second, .val (.ref b1), .val (.ref s1), .val (.ref b2), .val (.ref s2), .val (.ref b3), .val (.ref s3), .val (.ref n1), .val (.ref n2), .val (.int (0 : Int32)), .val (.int (0 : Int32)), .unset, .unset, .unset, .unset, .unset, .unset] [zJ18_0])) := by
        intro zJ18_0 hzJ18_0 rzJ18_0
        show Go _ _ _ _ _ _ _ (T17.setTop (mkF m 159 #[.val (.int x1), .val (.int x2), .val (.int x3), .val (.int x4), .val (.int x5), .val (.long x6), .second, .val (.ref b1), .val (.ref s1), .val (.ref b2), .val (.ref s2), .val (.ref b3), .val (.ref s3), .val (.ref n1), .val (.ref n2), .val (.int (0 : Int32)), .val (.int (0 : Int32)), .unset, .unset, .unset, .unset, .unset, .unset] [zJ18_0]))
        refine Go.of (fun _ q => XS.astore X17.here hx rfl (hb hby at_159) rfl rzJ18_0 (l' := #[.val (.int x1), .val (.int x2), .val (.int x3), .val (.int x4), .val (.int x5), .val (.long x6), .second, .val (.ref b1), .val (.ref s1), .val (.ref b2), .val (.ref s2), .val (.ref b3), .val (.ref s3), .val (.ref n1), .val (.ref n2), .val (.int (0 : Int32)), .val (.int (0 : Int32)), .val zJ18_0, .unset, .unset, .unset, .unset, .unset]) (by first | rfl | (cases zJ18_0 <;> first | rfl | (simp [Value.isRef] at rzJ18_0; done))) q) ?_
        show Go _ _ _ _ _ _ _ (T17.setTop (mkF m 161 #[.val (.int x1), .val (.int x2), .val (.int x3), .val (.int x4), .val (.int x5), .val (.long x6), .second, .val (.ref b1), .val (.ref s1), .val (.ref b2), .val (.ref s2), .val (.ref b3), .val (.ref s3), .val (.ref n1), .val (.ref n2), .val (.int (0 : Int32)), .val (.int (0 : Int32)), .val zJ18_0, .unset, .unset, .unset, .unset, .unset] []))
        refine Go.of (fun _ q => XS.iload X17.here hx rfl (hb hby at_161) rfl q) ?_
        show Go _ _ _ _ _ _ _ (T17.setTop (mkF m 163 #[.val (.int x1), .val (.int x2), .val (.int x3), .val (.int x4), .val (.int x5), .val (.long x6), .second, .val (.ref b1), .val (.ref s1), .val (.ref b2), .val (.ref s2), .val (.ref b3), .val (.ref s3), .val (.ref n1), .val (.ref n2), .val (.int (0 : Int32)), .val (.int (0 : Int32)), .val zJ18_0, .unset, .unset, .unset, .unset, .unset] [(.int x5)]))
        refine Go.of (fun _ q => XS.bipush X17.here hx rfl (hb hby at_163) q) ?_
        show Go _ _ _ _ _ _ _ (T17.setTop (mkF m 165 #[.val (.int x1), .val (.int x2), .val (.int x3), .val (.int x4), .val (.int x5), .val (.long x6), .second, .val (.ref b1), .val (.ref s1), .val (.ref b2), .val (.ref s2), .val (.ref b3), .val (.ref s3), .val (.ref n1), .val (.ref n2), .val (.int (0 : Int32)), .val (.int (0 : Int32)), .val zJ18_0, .unset, .unset, .unset, .unset, .unset] [(.int (8 : Int32)), (.int x5)]))
        refine Go.of (fun _ q => XS.iand X17.here hx rfl (hb hby at_165) rfl q) ?_
        show Go _ _ _ _ _ _ _ (T17.setTop (mkF m 166 #[.val (.int x1), .val (.int x2), .val (.int x3), .val (.int x4), .val (.int x5), .val (.long x6), .second, .val (.ref b1), .val (.ref s1), .val (.ref b2), .val (.ref s2), .val (.ref b3), .val (.ref s3), .val (.ref n1), .val (.ref n2), .val (.int (0 : Int32)), .val (.int (0 : Int32)), .val zJ18_0, .unset, .unset, .unset, .unset, .unset] [(.int (x5 &&& (8 : Int32)))]))
        have J19 : ∀ (zJ19_0 : Value), zJ19_0 = ((if (x5 &&& (8 : Int32)) = (0 : Int32) then (.ref n2) else .null) : Value) → zJ19_0.isRef = true → Go p e below s room_1.cells room_1.slots (Q0 Z x1 x2 x3 x4 x5 x6 cs h0 n0) (T17.setTop (mkF m 175 #[.val (.int x1), .val (.int x2), .val (.int x3), .val (.int x4), .val (.int x5), .val (.long x6), .second, .val (.ref b1), .val (.ref s1), .val (.ref b2), .val (.ref s2), .val (.ref b3), .val (.ref s3), .val (.ref n1), .val (.ref n2), .val (.int (0 : Int32)), .val (.int (0 : Int32)), .val zJ18_0, .unset, .unset, .unset, .unset, .unset] [zJ19_0])) := by
          intro zJ19_0 hzJ19_0 rzJ19_0
          show Go _ _ _ _ _ _ _ (T17.setTop (mkF m 175 #[.val (.int x1), .val (.int x2), .val (.int x3), .val (.int x4), .val (.int x5), .val (.long x6), .second, .val (.ref b1), .val (.ref s1), .val (.ref b2), .val (.ref s2), .val (.ref b3), .val (.ref s3), .val (.ref n1), .val (.ref n2), .val (.int (0 : Int32)), .val (.int (0 : Int32)), .val zJ18_0, .unset, .unset, .unset, .unset, .unset] [zJ19_0]))
          refine Go.of (fun _ q => XS.astore X17.here hx rfl (hb hby at_175) rfl rzJ19_0 (l' := #[.val (.int x1), .val (.int x2), .val (.int x3), .val (.int x4), .val (.int x5), .val (.long x6), .second, .val (.ref b1), .val (.ref s1), .val (.ref b2), .val (.ref s2), .val (.ref b3), .val (.ref s3), .val (.ref n1), .val (.ref n2), .val (.int (0 : Int32)), .val (.int (0 : Int32)), .val zJ18_0, .val zJ19_0, .unset, .unset, .unset, .unset]) (by first | rfl | (cases zJ19_0 <;> first | rfl | (simp [Value.isRef] at rzJ19_0; done))) q) ?_
          show Go _ _ _ _ _ _ _ (T17.setTop (mkF m 177 #[.val (.int x1), .val (.int x2), .val (.int x3), .val (.int x4), .val (.int x5), .val (.long x6), .second, .val (.ref b1), .val (.ref s1), .val (.ref b2), .val (.ref s2), .val (.ref b3), .val (.ref s3), .val (.ref n1), .val (.ref n2), .val (.int (0 : Int32)), .val (.int (0 : Int32)), .val zJ18_0, .val zJ19_0, .unset, .unset, .unset, .unset] []))
          obtain ⟨T20, h20, X20, e20, E20, A20, D20, -, st20⟩ := newO X17 hx hZ hown (hw _ (List.mem_of_getElem? (i := 46) rfl)) (hw _ (List.mem_of_getElem? (i := 47) rfl)) (hw _ (List.mem_of_getElem? (i := 48) rfl)) rfl (g := (mkF m 177 #[.val (.int x1), .val (.int x2), .val (.int x3), .val (.int x4), .val (.int x5), .val (.long x6), .second, .val (.ref b1), .val (.ref s1), .val (.ref b2), .val (.ref s2), .val (.ref b3), .val (.ref s3), .val (.ref n1), .val (.ref n2), .val (.int (0 : Int32)), .val (.int (0 : Int32)), .val zJ18_0, .val zJ19_0, .unset, .unset, .unset, .unset] [])) rfl (hb hby at_177) (by decide) (by decide)
          obtain ⟨a, g20⟩ : ∃ z, z = T17.heap.size := ⟨_, rfl⟩
          rw [← g20] at A20 D20 st20
          refine Go.of st20 ?_
          have g_a : n0 ≤ a := Nat.le_trans Zs (Nat.le_of_eq g20.symm)
          have sz_a : h0.size ≤ a := Nat.le_trans Kp.1 (Nat.le_of_eq g20.symm)
          have ne_b1_a : b1 ≠ a := Nat.ne_of_lt (Nat.lt_of_lt_of_le E_b1.lt (Nat.le_of_eq g20.symm))
          have ne_s1_a : s1 ≠ a := Nat.ne_of_lt (Nat.lt_of_lt_of_le E_s1.lt (Nat.le_of_eq g20.symm))
          have ne_d1_a : d1 ≠ a := Nat.ne_of_lt (Nat.lt_of_lt_of_le A_d1.lt (Nat.le_of_eq g20.symm))
          have ne_b2_a : b2 ≠ a := Nat.ne_of_lt (Nat.lt_of_lt_of_le E_b2.lt (Nat.le_of_eq g20.symm))
          have ne_s2_a : s2 ≠ a := Nat.ne_of_lt (Nat.lt_of_lt_of_le E_s2.lt (Nat.le_of_eq g20.symm))
          have ne_d2_a : d2 ≠ a := Nat.ne_of_lt (Nat.lt_of_lt_of_le A_d2.lt (Nat.le_of_eq g20.symm))
          have ne_b3_a : b3 ≠ a := Nat.ne_of_lt (Nat.lt_of_lt_of_le E_b3.lt (Nat.le_of_eq g20.symm))
          have ne_s3_a : s3 ≠ a := Nat.ne_of_lt (Nat.lt_of_lt_of_le E_s3.lt (Nat.le_of_eq g20.symm))
          have ne_d3_a : d3 ≠ a := Nat.ne_of_lt (Nat.lt_of_lt_of_le A_d3.lt (Nat.le_of_eq g20.symm))
          have ne_n1_a : n1 ≠ a := Nat.ne_of_lt (Nat.lt_of_lt_of_le E_n1.lt (Nat.le_of_eq g20.symm))
          have ne_n2_a : n2 ≠ a := Nat.ne_of_lt (Nat.lt_of_lt_of_le E_n2.lt (Nat.le_of_eq g20.symm))
          have Zs := Nat.le_trans Zs E20.1
          have Kp := Kp.ext E20
          have Od := Od.ext E20
          have E_b1 := E_b1.ext E20
          have A_b1 := A_b1.ext E20
          have E_s1 := E_s1.ext E20
          have F_s1_value := F_s1_value.ext E20
          have F_s1_coder := F_s1_coder.ext E20
          have A_d1 := A_d1.ext E20
          have E_b2 := E_b2.ext E20
          have A_b2 := A_b2.ext E20
          have E_s2 := E_s2.ext E20
          have F_s2_value := F_s2_value.ext E20
          have F_s2_coder := F_s2_coder.ext E20
          have A_d2 := A_d2.ext E20
          have E_b3 := E_b3.ext E20
          have A_b3 := A_b3.ext E20
          have E_s3 := E_s3.ext E20
          have F_s3_value := F_s3_value.ext E20
          have F_s3_coder := F_s3_coder.ext E20
          have A_d3 := A_d3.ext E20
          have E_n1 := E_n1.ext E20
          have E_n2 := E_n2.ext E20
          have E_a := A20
          have F_a_client : Fld Z h20 a "com/example/lane/lane/AccessRecord" "client" "Ljava/lang/String;" .null := D20 (Or.inr (hw _ (List.mem_of_getElem? (i := 54) rfl))) (ty := (.object "java/lang/String")) (by decide)
          have F_a_start : Fld Z h20 a "com/example/lane/lane/AccessRecord" "start" "J" (.long (0 : Int64)) := D20 (Or.inr (hw _ (List.mem_of_getElem? (i := 56) rfl))) (ty := .long) (by decide)
          have F_a_attempts : Fld Z h20 a "com/example/lane/lane/AccessRecord" "attempts" "I" (.int (0 : Int32)) := D20 (Or.inl (hw _ (List.mem_of_getElem? (i := 63) rfl))) (ty := .int) (by decide)
          have F_a_upstream : Fld Z h20 a "com/example/lane/lane/AccessRecord" "upstream" "Ljava/lang/String;" .null := D20 (Or.inl (hw _ (List.mem_of_getElem? (i := 70) rfl))) (ty := (.object "java/lang/String")) (by decide)
          have F_a_node : Fld Z h20 a "com/example/lane/lane/AccessRecord" "node" "Lcom/example/lane/lane/config/HostPort;" .null := D20 (Or.inl (hw _ (List.mem_of_getElem? (i := 77) rfl))) (ty := (.object "com/example/lane/lane/config/HostPort")) (by decide)
          have F_a_status : Fld Z h20 a "com/example/lane/lane/AccessRecord" "status" "I" (.int (0 : Int32)) := D20 (Or.inl (hw _ (List.mem_of_getElem? (i := 84) rfl))) (ty := .int) (by decide)
          have F_a_route : Fld Z h20 a "com/example/lane/lane/AccessRecord" "route" "Ljava/lang/String;" .null := D20 (Or.inl (hw _ (List.mem_of_getElem? (i := 91) rfl))) (ty := (.object "java/lang/String")) (by decide)
          show Go _ _ _ _ _ _ _ (T20.setTop (mkF m 180 #[.val (.int x1), .val (.int x2), .val (.int x3), .val (.int x4), .val (.int x5), .val (.long x6), .second, .val (.ref b1), .val (.ref s1), .val (.ref b2), .val (.ref s2), .val (.ref b3), .val (.ref s3), .val (.ref n1), .val (.ref n2), .val (.int (0 : Int32)), .val (.int (0 : Int32)), .val zJ18_0, .val zJ19_0, .unset, .unset, .unset, .unset] [(.ref a)]))
          refine Go.of (fun _ q => XS.dup X20.here hx rfl (hb hby at_180) rfl rfl q) ?_
          show Go _ _ _ _ _ _ _ (T20.setTop (mkF m 181 #[.val (.int x1), .val (.int x2), .val (.int x3), .val (.int x4), .val (.int x5), .val (.long x6), .second, .val (.ref b1), .val (.ref s1), .val (.ref b2), .val (.ref s2), .val (.ref b3), .val (.ref s3), .val (.ref n1), .val (.ref n2), .val (.int (0 : Int32)), .val (.int (0 : Int32)), .val zJ18_0, .val zJ19_0, .unset, .unset, .unset, .unset] [(.ref a), (.ref a)]))
          refine Go.of (fun _ q => XS.aload X20.here hx rfl (hb hby at_181) rfl rfl q) ?_
          show Go _ _ _ _ _ _ _ (T20.setTop (mkF m 183 #[.val (.int x1), .val (.int x2), .val (.int x3), .val (.int x4), .val (.int x5), .val (.long x6), .second, .val (.ref b1), .val (.ref s1), .val (.ref b2), .val (.ref s2), .val (.ref b3), .val (.ref s3), .val (.ref n1), .val (.ref n2), .val (.int (0 : Int32)), .val (.int (0 : Int32)), .val zJ18_0, .val zJ19_0, .unset, .unset, .unset, .unset] [(.ref s3), (.ref a), (.ref a)]))
          refine Go.of (fun _ q => XS.lload X20.here hx rfl (hb hby at_183) rfl q) ?_
          show Go _ _ _ _ _ _ _ (T20.setTop (mkF m 185 #[.val (.int x1), .val (.int x2), .val (.int x3), .val (.int x4), .val (.int x5), .val (.long x6), .second, .val (.ref b1), .val (.ref s1), .val (.ref b2), .val (.ref s2), .val (.ref b3), .val (.ref s3), .val (.ref n1), .val (.ref n2), .val (.int (0 : Int32)), .val (.int (0 : Int32)), .val zJ18_0, .val zJ19_0, .unset, .unset, .unset, .unset] [(.long x6), (.ref s3), (.ref a), (.ref a)]))
          refine Go.special X20 hx hZ (y := (⟨"com/example/lane/lane/AccessRecord", "<init>", "(Ljava/lang/String;J)V"⟩ : MethodName)) (a := a) (argsL := [(.ref s3), (.long x6)]) rfl hown (hw _ (List.mem_of_getElem? (i := 49) rfl)) (hw _ (List.mem_of_getElem? (i := 50) rfl)) (hw _ (List.mem_of_getElem? (i := 48) rfl)) (hw _ (List.mem_of_getElem? (i := 51) rfl)) (by decide) 1 e20 (rm9 l Z a0 hw a s3 x6 .null (0 : Int64) .null .null (0 : Int32) h20 n0 Zs E_a F_a_client F_a_start F_a_upstream F_a_node F_a_attempts F_a_status F_a_route g_a) (by decide) (by decide) (by decide) (by decide) (g := (mkF m 185 #[.val (.int x1), .val (.int x2), .val (.int x3), .val (.int x4), .val (.int x5), .val (.long x6), .second, .val (.ref b1), .val (.ref s1), .val (.ref b2), .val (.ref s2), .val (.ref b3), .val (.ref s3), .val (.ref n1), .val (.ref n2), .val (.int (0 : Int32)), .val (.int (0 : Int32)), .val zJ18_0, .val zJ19_0, .unset, .unset, .unset, .unset] [(.long x6), (.ref s3), (.ref a), (.ref a)])) rfl (by rw [hml]; rfl) (rest := [(.ref a)]) (lenOf pd7 rfl) rfl (by show 2 * 0 + _ ≤ _; exact Nat.le_of_eq rfl) (hb hby at_185) ?_
          intro T21 v21 L21 X21 q21
          obtain ⟨rfl, Nq21, K21, f21_0, f21_1, f21_2, f21_3, f21_4, f21_5⟩ := q21
          have N21 := Fr.app N17 Nq21
          have Zs := Nat.le_trans Zs K21.1
          have Kp := Kp.trans K21 (allS (P := fun x => x ∈ [] ∨ h0.size ≤ x) (Or.inr sz_a) all0)
          have Od := Od.keep K21 (allS (P := fun x => n0 ≤ x) g_a all0)
          have E_b1 := E_b1.keep K21
          have A_b1 := A_b1.keep K21 (ninS ne_b1_a nin0)
          have E_s1 := E_s1.keep K21
          have F_s1_value := F_s1_value.keep K21 (ninS ne_s1_a nin0)
          have F_s1_coder := F_s1_coder.keep K21 (ninS ne_s1_a nin0)
          have A_d1 := A_d1.keep K21 (ninS ne_d1_a nin0)
          have E_b2 := E_b2.keep K21
          have A_b2 := A_b2.keep K21 (ninS ne_b2_a nin0)
          have E_s2 := E_s2.keep K21
          have F_s2_value := F_s2_value.keep K21 (ninS ne_s2_a nin0)
          have F_s2_coder := F_s2_coder.keep K21 (ninS ne_s2_a nin0)
          have A_d2 := A_d2.keep K21 (ninS ne_d2_a nin0)
          have E_b3 := E_b3.keep K21
          have A_b3 := A_b3.keep K21 (ninS ne_b3_a nin0)
          have E_s3 := E_s3.keep K21
          have F_s3_value := F_s3_value.keep K21 (ninS ne_s3_a nin0)
          have F_s3_coder := F_s3_coder.keep K21 (ninS ne_s3_a nin0)
          have A_d3 := A_d3.keep K21 (ninS ne_d3_a nin0)
          have E_n1 := E_n1.keep K21
          have E_n2 := E_n2.keep K21
          have E_a := E_a.keep K21
          have F_a_upstream := f21_1
          have F_a_node := f21_2
          have F_a_attempts := f21_3
          have F_a_status := f21_4
          have F_a_route := f21_5
          show Go _ _ _ _ _ _ _ (T21.setTop (mkF m 188 #[.val (.int x1), .val (.int x2), .val (.int x3), .val (.int x4), .val (.int x5), .val (.long x6), .second, .val (.ref b1), .val (.ref s1), .val (.ref b2), .val (.ref s2), .val (.ref b3), .val (.ref s3), .val (.ref n1), .val (.ref n2), .val (.int (0 : Int32)), .val (.int (0 : Int32)), .val zJ18_0, .val zJ19_0, .unset, .unset, .unset, .unset] [(.ref a)]))
          refine Go.of (fun _ q => XS.astore X21.here hx rfl (hb hby at_188) rfl rfl (l' := #[.val (.int x1), .val (.int x2), .val (.int x3), .val (.int x4), .val (.int x5), .val (.long x6), .second, .val (.ref b1), .val (.ref s1), .val (.ref b2), .val (.ref s2), .val (.ref b3), .val (.ref s3), .val (.ref n1), .val (.ref n2), .val (.int (0 : Int32)), .val (.int (0 : Int32)), .val zJ18_0, .val zJ19_0, .val (.ref a), .unset, .unset, .unset]) rfl q) ?_
          show Go _ _ _ _ _ _ _ (T21.setTop (mkF m 190 #[.val (.int x1), .val (.int x2), .val (.int x3), .val (.int x4), .val (.int x5), .val (.long x6), .second, .val (.ref b1), .val (.ref s1), .val (.ref b2), .val (.ref s2), .val (.ref b3), .val (.ref s3), .val (.ref n1), .val (.ref n2), .val (.int (0 : Int32)), .val (.int (0 : Int32)), .val zJ18_0, .val zJ19_0, .val (.ref a), .unset, .unset, .unset] []))
          refine Go.of (fun _ q => XS.iload X21.here hx rfl (hb hby at_190) rfl q) ?_
          show Go _ _ _ _ _ _ _ (T21.setTop (mkF m 192 #[.val (.int x1), .val (.int x2), .val (.int x3), .val (.int x4), .val (.int x5), .val (.long x6), .second, .val (.ref b1), .val (.ref s1), .val (.ref b2), .val (.ref s2), .val (.ref b3), .val (.ref s3), .val (.ref n1), .val (.ref n2), .val (.int (0 : Int32)), .val (.int (0 : Int32)), .val zJ18_0, .val zJ19_0, .val (.ref a), .unset, .unset, .unset] [(.int (0 : Int32))]))
          refine Go.of (fun _ q => XS.ifYes X21.here hx rfl (pc0 := 192) (pc' := 204) rfl (hb hby at_192) rfl ((if0 _ _).trans (teq rfl).1) (by decide) (by decide) q) ?_
          show Go _ _ _ _ _ _ _ (T21.setTop (mkF m 204 #[.val (.int x1), .val (.int x2), .val (.int x3), .val (.int x4), .val (.int x5), .val (.long x6), .second, .val (.ref b1), .val (.ref s1), .val (.ref b2), .val (.ref s2), .val (.ref b3), .val (.ref s3), .val (.ref n1), .val (.ref n2), .val (.int (0 : Int32)), .val (.int (0 : Int32)), .val zJ18_0, .val zJ19_0, .val (.ref a), .unset, .unset, .unset] []))
          refine Go.of (fun _ q => XS.iload X21.here hx rfl (hb hby at_204) rfl q) ?_
          show Go _ _ _ _ _ _ _ (T21.setTop (mkF m 206 #[.val (.int x1), .val (.int x2), .val (.int x3), .val (.int x4), .val (.int x5), .val (.long x6), .second, .val (.ref b1), .val (.ref s1), .val (.ref b2), .val (.ref s2), .val (.ref b3), .val (.ref s3), .val (.ref n1), .val (.ref n2), .val (.int (0 : Int32)), .val (.int (0 : Int32)), .val zJ18_0, .val zJ19_0, .val (.ref a), .unset, .unset, .unset] [(.int (0 : Int32))]))
          refine Go.of (fun _ q => XS.ifYes X21.here hx rfl (pc0 := 206) (pc' := 218) rfl (hb hby at_206) rfl ((if0 _ _).trans (teq rfl).1) (by decide) (by decide) q) ?_
          show Go _ _ _ _ _ _ _ (T21.setTop (mkF m 218 #[.val (.int x1), .val (.int x2), .val (.int x3), .val (.int x4), .val (.int x5), .val (.long x6), .second, .val (.ref b1), .val (.ref s1), .val (.ref b2), .val (.ref s2), .val (.ref b3), .val (.ref s3), .val (.ref n1), .val (.ref n2), .val (.int (0 : Int32)), .val (.int (0 : Int32)), .val zJ18_0, .val zJ19_0, .val (.ref a), .unset, .unset, .unset] []))
          refine Go.of (fun _ q => XS.iload X21.here hx rfl (hb hby at_218) rfl q) ?_
          show Go _ _ _ _ _ _ _ (T21.setTop (mkF m 220 #[.val (.int x1), .val (.int x2), .val (.int x3), .val (.int x4), .val (.int x5), .val (.long x6), .second, .val (.ref b1), .val (.ref s1), .val (.ref b2), .val (.ref s2), .val (.ref b3), .val (.ref s3), .val (.ref n1), .val (.ref n2), .val (.int (0 : Int32)), .val (.int (0 : Int32)), .val zJ18_0, .val zJ19_0, .val (.ref a), .unset, .unset, .unset] [(.int (0 : Int32))]))
          refine Go.of (fun _ q => XS.ifYes X21.here hx rfl (pc0 := 220) (pc' := 227) rfl (hb hby at_220) rfl ((if0 _ _).trans (teq rfl).1) (by decide) (by decide) q) ?_
          show Go _ _ _ _ _ _ _ (T21.setTop (mkF m 227 #[.val (.int x1), .val (.int x2), .val (.int x3), .val (.int x4), .val (.int x5), .val (.long x6), .second, .val (.ref b1), .val (.ref s1), .val (.ref b2), .val (.ref s2), .val (.ref b3), .val (.ref s3), .val (.ref n1), .val (.ref n2), .val (.int (0 : Int32)), .val (.int (0 : Int32)), .val zJ18_0, .val zJ19_0, .val (.ref a), .unset, .unset, .unset] []))
          refine Go.of (fun _ q => XS.iconst X21.here hx rfl (hb hby at_227) q) ?_
          show Go _ _ _ _ _ _ _ (T21.setTop (mkF m 228 #[.val (.int x1), .val (.int x2), .val (.int x3), .val (.int x4), .val (.int x5), .val (.long x6), .second, .val (.ref b1), .val (.ref s1), .val (.ref b2), .val (.ref s2), .val (.ref b3), .val (.ref s3), .val (.ref n1), .val (.ref n2), .val (.int (0 : Int32)), .val (.int (0 : Int32)), .val zJ18_0, .val zJ19_0, .val (.ref a), .unset, .unset, .unset] [(.int (0 : Int32))]))
          refine Go.of (fun _ q => XS.iload X21.here hx rfl (hb hby at_228) rfl q) ?_
          show Go _ _ _ _ _ _ _ (T21.setTop (mkF m 230 #[.val (.int x1), .val (.int x2), .val (.int x3), .val (.int x4), .val (.int x5), .val (.long x6), .second, .val (.ref b1), .val (.ref s1), .val (.ref b2), .val (.ref s2), .val (.ref b3), .val (.ref s3), .val (.ref n1), .val (.ref n2), .val (.int (0 : Int32)), .val (.int (0 : Int32)), .val zJ18_0, .val zJ19_0, .val (.ref a), .unset, .unset, .unset] [(.int (0 : Int32)), (.int (0 : Int32))]))
          refine Go.of (fun _ q => XS.ifYes X21.here hx rfl (pc0 := 230) (pc' := 237) rfl (hb hby at_230) rfl ((if0 _ _).trans (teq rfl).1) (by decide) (by decide) q) ?_
          show Go _ _ _ _ _ _ _ (T21.setTop (mkF m 237 #[.val (.int x1), .val (.int x2), .val (.int x3), .val (.int x4), .val (.int x5), .val (.long x6), .second, .val (.ref b1), .val (.ref s1), .val (.ref b2), .val (.ref s2), .val (.ref b3), .val (.ref s3), .val (.ref n1), .val (.ref n2), .val (.int (0 : Int32)), .val (.int (0 : Int32)), .val zJ18_0, .val zJ19_0, .val (.ref a), .unset, .unset, .unset] [(.int (0 : Int32))]))
          refine Go.of (fun _ q => XS.iconst X21.here hx rfl (hb hby at_237) q) ?_
          show Go _ _ _ _ _ _ _ (T21.setTop (mkF m 238 #[.val (.int x1), .val (.int x2), .val (.int x3), .val (.int x4), .val (.int x5), .val (.long x6), .second, .val (.ref b1), .val (.ref s1), .val (.ref b2), .val (.ref s2), .val (.ref b3), .val (.ref s3), .val (.ref n1), .val (.ref n2), .val (.int (0 : Int32)), .val (.int (0 : Int32)), .val zJ18_0, .val zJ19_0, .val (.ref a), .unset, .unset, .unset] [(.int (0 : Int32)), (.int (0 : Int32))]))
          refine Go.of (fun _ q => XS.iadd X21.here hx rfl (hb hby at_238) rfl q) ?_
          show Go _ _ _ _ _ _ _ (T21.setTop (mkF m 239 #[.val (.int x1), .val (.int x2), .val (.int x3), .val (.int x4), .val (.int x5), .val (.long x6), .second, .val (.ref b1), .val (.ref s1), .val (.ref b2), .val (.ref s2), .val (.ref b3), .val (.ref s3), .val (.ref n1), .val (.ref n2), .val (.int (0 : Int32)), .val (.int (0 : Int32)), .val zJ18_0, .val zJ19_0, .val (.ref a), .unset, .unset, .unset] [(.int (0 : Int32))]))
          refine Go.of (fun _ q => XS.istore X21.here hx rfl (hb hby at_239) rfl (l' := #[.val (.int x1), .val (.int x2), .val (.int x3), .val (.int x4), .val (.int x5), .val (.long x6), .second, .val (.ref b1), .val (.ref s1), .val (.ref b2), .val (.ref s2), .val (.ref b3), .val (.ref s3), .val (.ref n1), .val (.ref n2), .val (.int (0 : Int32)), .val (.int (0 : Int32)), .val zJ18_0, .val zJ19_0, .val (.ref a), .val (.int (0 : Int32)), .unset, .unset]) rfl q) ?_
          show Go _ _ _ _ _ _ _ (T21.setTop (mkF m 241 #[.val (.int x1), .val (.int x2), .val (.int x3), .val (.int x4), .val (.int x5), .val (.long x6), .second, .val (.ref b1), .val (.ref s1), .val (.ref b2), .val (.ref s2), .val (.ref b3), .val (.ref s3), .val (.ref n1), .val (.ref n2), .val (.int (0 : Int32)), .val (.int (0 : Int32)), .val zJ18_0, .val zJ19_0, .val (.ref a), .val (.int (0 : Int32)), .unset, .unset] []))
          refine Go.of (fun _ q => XS.iload X21.here hx rfl (hb hby at_241) rfl q) ?_
          show Go _ _ _ _ _ _ _ (T21.setTop (mkF m 243 #[.val (.int x1), .val (.int x2), .val (.int x3), .val (.int x4), .val (.int x5), .val (.long x6), .second, .val (.ref b1), .val (.ref s1), .val (.ref b2), .val (.ref s2), .val (.ref b3), .val (.ref s3), .val (.ref n1), .val (.ref n2), .val (.int (0 : Int32)), .val (.int (0 : Int32)), .val zJ18_0, .val zJ19_0, .val (.ref a), .val (.int (0 : Int32)), .unset, .unset] [(.int (0 : Int32))]))
          refine Go.of (fun _ q => XS.ifYes X21.here hx rfl (pc0 := 243) (pc' := 251) rfl (hb hby at_243) rfl ((if0 _ _).trans (teq rfl).1) (by decide) (by decide) q) ?_
          show Go _ _ _ _ _ _ _ (T21.setTop (mkF m 251 #[.val (.int x1), .val (.int x2), .val (.int x3), .val (.int x4), .val (.int x5), .val (.long x6), .second, .val (.ref b1), .val (.ref s1), .val (.ref b2), .val (.ref s2), .val (.ref b3), .val (.ref s3), .val (.ref n1), .val (.ref n2), .val (.int (0 : Int32)), .val (.int (0 : Int32)), .val zJ18_0, .val zJ19_0, .val (.ref a), .val (.int (0 : Int32)), .unset, .unset] []))
          refine Go.of (fun _ q => XS.iload X21.here hx rfl (hb hby at_251) rfl q) ?_
          show Go _ _ _ _ _ _ _ (T21.setTop (mkF m 253 #[.val (.int x1), .val (.int x2), .val (.int x3), .val (.int x4), .val (.int x5), .val (.long x6), .second, .val (.ref b1), .val (.ref s1), .val (.ref b2), .val (.ref s2), .val (.ref b3), .val (.ref s3), .val (.ref n1), .val (.ref n2), .val (.int (0 : Int32)), .val (.int (0 : Int32)), .val zJ18_0, .val zJ19_0, .val (.ref a), .val (.int (0 : Int32)), .unset, .unset] [(.int (0 : Int32))]))
          refine Go.of (fun _ q => XS.ifYes X21.here hx rfl (pc0 := 253) (pc' := 261) rfl (hb hby at_253) rfl ((if0 _ _).trans (teq rfl).1) (by decide) (by decide) q) ?_
          show Go _ _ _ _ _ _ _ (T21.setTop (mkF m 261 #[.val (.int x1), .val (.int x2), .val (.int x3), .val (.int x4), .val (.int x5), .val (.long x6), .second, .val (.ref b1), .val (.ref s1), .val (.ref b2), .val (.ref s2), .val (.ref b3), .val (.ref s3), .val (.ref n1), .val (.ref n2), .val (.int (0 : Int32)), .val (.int (0 : Int32)), .val zJ18_0, .val zJ19_0, .val (.ref a), .val (.int (0 : Int32)), .unset, .unset] []))
          refine Go.of (fun _ q => XS.aconstNull X21.here hx rfl (hb hby at_261) q) ?_
          show Go _ _ _ _ _ _ _ (T21.setTop (mkF m 262 #[.val (.int x1), .val (.int x2), .val (.int x3), .val (.int x4), .val (.int x5), .val (.long x6), .second, .val (.ref b1), .val (.ref s1), .val (.ref b2), .val (.ref s2), .val (.ref b3), .val (.ref s3), .val (.ref n1), .val (.ref n2), .val (.int (0 : Int32)), .val (.int (0 : Int32)), .val zJ18_0, .val zJ19_0, .val (.ref a), .val (.int (0 : Int32)), .unset, .unset] [.null]))
          refine Go.of (fun _ q => XS.astore X21.here hx rfl (hb hby at_262) rfl rfl (l' := #[.val (.int x1), .val (.int x2), .val (.int x3), .val (.int x4), .val (.int x5), .val (.long x6), .second, .val (.ref b1), .val (.ref s1), .val (.ref b2), .val (.ref s2), .val (.ref b3), .val (.ref s3), .val (.ref n1), .val (.ref n2), .val (.int (0 : Int32)), .val (.int (0 : Int32)), .val zJ18_0, .val zJ19_0, .val (.ref a), .val (.int (0 : Int32)), .val .null, .unset]) rfl q) ?_
          show Go _ _ _ _ _ _ _ (T21.setTop (mkF m 264 #[.val (.int x1), .val (.int x2), .val (.int x3), .val (.int x4), .val (.int x5), .val (.long x6), .second, .val (.ref b1), .val (.ref s1), .val (.ref b2), .val (.ref s2), .val (.ref b3), .val (.ref s3), .val (.ref n1), .val (.ref n2), .val (.int (0 : Int32)), .val (.int (0 : Int32)), .val zJ18_0, .val zJ19_0, .val (.ref a), .val (.int (0 : Int32)), .val .null, .unset] []))
          refine Go.of (fun _ q => XS.iload X21.here hx rfl (hb hby at_264) rfl q) ?_
          show Go _ _ _ _ _ _ _ (T21.setTop (mkF m 266 #[.val (.int x1), .val (.int x2), .val (.int x3), .val (.int x4), .val (.int x5), .val (.long x6), .second, .val (.ref b1), .val (.ref s1), .val (.ref b2), .val (.ref s2), .val (.ref b3), .val (.ref s3), .val (.ref n1), .val (.ref n2), .val (.int (0 : Int32)), .val (.int (0 : Int32)), .val zJ18_0, .val zJ19_0, .val (.ref a), .val (.int (0 : Int32)), .val .null, .unset] [(.int (0 : Int32))]))
          refine Go.of (fun _ q => XS.ifYes X21.here hx rfl (pc0 := 266) (pc' := 274) rfl (hb hby at_266) rfl ((if0 _ _).trans (teq rfl).1) (by decide) (by decide) q) ?_
          show Go _ _ _ _ _ _ _ (T21.setTop (mkF m 274 #[.val (.int x1), .val (.int x2), .val (.int x3), .val (.int x4), .val (.int x5), .val (.long x6), .second, .val (.ref b1), .val (.ref s1), .val (.ref b2), .val (.ref s2), .val (.ref b3), .val (.ref s3), .val (.ref n1), .val (.ref n2), .val (.int (0 : Int32)), .val (.int (0 : Int32)), .val zJ18_0, .val zJ19_0, .val (.ref a), .val (.int (0 : Int32)), .val .null, .unset] []))
          refine Go.of (fun _ q => XS.iload X21.here hx rfl (hb hby at_274) rfl q) ?_
          show Go _ _ _ _ _ _ _ (T21.setTop (mkF m 276 #[.val (.int x1), .val (.int x2), .val (.int x3), .val (.int x4), .val (.int x5), .val (.long x6), .second, .val (.ref b1), .val (.ref s1), .val (.ref b2), .val (.ref s2), .val (.ref b3), .val (.ref s3), .val (.ref n1), .val (.ref n2), .val (.int (0 : Int32)), .val (.int (0 : Int32)), .val zJ18_0, .val zJ19_0, .val (.ref a), .val (.int (0 : Int32)), .val .null, .unset] [(.int (0 : Int32))]))
          refine Go.of (fun _ q => XS.ifYes X21.here hx rfl (pc0 := 276) (pc' := 284) rfl (hb hby at_276) rfl ((if0 _ _).trans (teq rfl).1) (by decide) (by decide) q) ?_
          show Go _ _ _ _ _ _ _ (T21.setTop (mkF m 284 #[.val (.int x1), .val (.int x2), .val (.int x3), .val (.int x4), .val (.int x5), .val (.long x6), .second, .val (.ref b1), .val (.ref s1), .val (.ref b2), .val (.ref s2), .val (.ref b3), .val (.ref s3), .val (.ref n1), .val (.ref n2), .val (.int (0 : Int32)), .val (.int (0 : Int32)), .val zJ18_0, .val zJ19_0, .val (.ref a), .val (.int (0 : Int32)), .val .null, .unset] []))
          refine Go.of (fun _ q => XS.aconstNull X21.here hx rfl (hb hby at_284) q) ?_
          show Go _ _ _ _ _ _ _ (T21.setTop (mkF m 285 #[.val (.int x1), .val (.int x2), .val (.int x3), .val (.int x4), .val (.int x5), .val (.long x6), .second, .val (.ref b1), .val (.ref s1), .val (.ref b2), .val (.ref s2), .val (.ref b3), .val (.ref s3), .val (.ref n1), .val (.ref n2), .val (.int (0 : Int32)), .val (.int (0 : Int32)), .val zJ18_0, .val zJ19_0, .val (.ref a), .val (.int (0 : Int32)), .val .null, .unset] [.null]))
          refine Go.of (fun _ q => XS.astore X21.here hx rfl (hb hby at_285) rfl rfl (l' := #[.val (.int x1), .val (.int x2), .val (.int x3), .val (.int x4), .val (.int x5), .val (.long x6), .second, .val (.ref b1), .val (.ref s1), .val (.ref b2), .val (.ref s2), .val (.ref b3), .val (.ref s3), .val (.ref n1), .val (.ref n2), .val (.int (0 : Int32)), .val (.int (0 : Int32)), .val zJ18_0, .val zJ19_0, .val (.ref a), .val (.int (0 : Int32)), .val .null, .val .null]) rfl q) ?_
          show Go _ _ _ _ _ _ _ (T21.setTop (mkF m 287 #[.val (.int x1), .val (.int x2), .val (.int x3), .val (.int x4), .val (.int x5), .val (.long x6), .second, .val (.ref b1), .val (.ref s1), .val (.ref b2), .val (.ref s2), .val (.ref b3), .val (.ref s3), .val (.ref n1), .val (.ref n2), .val (.int (0 : Int32)), .val (.int (0 : Int32)), .val zJ18_0, .val zJ19_0, .val (.ref a), .val (.int (0 : Int32)), .val .null, .val .null] []))
          refine Go.of (fun _ q => XS.aload X21.here hx rfl (hb hby at_287) rfl rfl q) ?_
          show Go _ _ _ _ _ _ _ (T21.setTop (mkF m 289 #[.val (.int x1), .val (.int x2), .val (.int x3), .val (.int x4), .val (.int x5), .val (.long x6), .second, .val (.ref b1), .val (.ref s1), .val (.ref b2), .val (.ref s2), .val (.ref b3), .val (.ref s3), .val (.ref n1), .val (.ref n2), .val (.int (0 : Int32)), .val (.int (0 : Int32)), .val zJ18_0, .val zJ19_0, .val (.ref a), .val (.int (0 : Int32)), .val .null, .val .null] [(.ref a)]))
          refine Go.virtual X21 hx hZ (y := (⟨"com/example/lane/lane/AccessRecord", "attempts", "()I"⟩ : MethodName)) (z := (⟨"com/example/lane/lane/AccessRecord", "attempts", "()I"⟩ : MethodName)) (a := a) (argsL := []) hown (hw _ (List.mem_of_getElem? (i := 57) rfl)) (hw _ (List.mem_of_getElem? (i := 58) rfl)) (notFace_of_selects (args := #[]) (mvT hZ (hw _ (List.mem_of_getElem? (i := 60) rfl)))) (hw _ (List.mem_of_getElem? (i := 60) rfl)) (hw _ (List.mem_of_getElem? (i := 59) rfl)) (hw _ (List.mem_of_getElem? (i := 48) rfl)) (hw _ (List.mem_of_getElem? (i := 61) rfl)) (by decide) 0 rfl E_a (rm10 l Z a0 hw a (0 : Int32) T21.heap n0 Zs F_a_attempts) (by decide) (by decide) (by decide) (by decide) (g := (mkF m 289 #[.val (.int x1), .val (.int x2), .val (.int x3), .val (.int x4), .val (.int x5), .val (.long x6), .second, .val (.ref b1), .val (.ref s1), .val (.ref b2), .val (.ref s2), .val (.ref b3), .val (.ref s3), .val (.ref n1), .val (.ref n2), .val (.int (0 : Int32)), .val (.int (0 : Int32)), .val zJ18_0, .val zJ19_0, .val (.ref a), .val (.int (0 : Int32)), .val .null, .val .null] [(.ref a)])) rfl (by rw [hml]; rfl) (rest := []) (lenOf pd8 rfl) rfl (by show 2 * 0 + _ ≤ _; exact Nat.le_of_eq rfl) (hb hby at_289) ?_
          intro T22 v22 L22 X22 q22
          obtain ⟨rfl, Nq22, e22⟩ := q22
          have N22 := Fr.app N21 Nq22
          show Go _ _ _ _ _ _ _ (T22.setTop (mkF m 292 #[.val (.int x1), .val (.int x2), .val (.int x3), .val (.int x4), .val (.int x5), .val (.long x6), .second, .val (.ref b1), .val (.ref s1), .val (.ref b2), .val (.ref s2), .val (.ref b3), .val (.ref s3), .val (.ref n1), .val (.ref n2), .val (.int (0 : Int32)), .val (.int (0 : Int32)), .val zJ18_0, .val zJ19_0, .val (.ref a), .val (.int (0 : Int32)), .val .null, .val .null] [(.int (0 : Int32))]))
          refine Go.of (fun _ q => XS.iload X22.here hx rfl (hb hby at_292) rfl q) ?_
          show Go _ _ _ _ _ _ _ (T22.setTop (mkF m 294 #[.val (.int x1), .val (.int x2), .val (.int x3), .val (.int x4), .val (.int x5), .val (.long x6), .second, .val (.ref b1), .val (.ref s1), .val (.ref b2), .val (.ref s2), .val (.ref b3), .val (.ref s3), .val (.ref n1), .val (.ref n2), .val (.int (0 : Int32)), .val (.int (0 : Int32)), .val zJ18_0, .val zJ19_0, .val (.ref a), .val (.int (0 : Int32)), .val .null, .val .null] [(.int (0 : Int32)), (.int (0 : Int32))]))
          refine Go.of (fun _ q => XS.icmpNo X22.here hx rfl (hb hby at_294) rfl (teq rfl).2 q) ?_
          show Go _ _ _ _ _ _ _ (T22.setTop (mkF m 297 #[.val (.int x1), .val (.int x2), .val (.int x3), .val (.int x4), .val (.int x5), .val (.long x6), .second, .val (.ref b1), .val (.ref s1), .val (.ref b2), .val (.ref s2), .val (.ref b3), .val (.ref s3), .val (.ref n1), .val (.ref n2), .val (.int (0 : Int32)), .val (.int (0 : Int32)), .val zJ18_0, .val zJ19_0, .val (.ref a), .val (.int (0 : Int32)), .val .null, .val .null] []))
          refine Go.of (fun _ q => XS.aload X22.here hx rfl (hb hby at_297) rfl rfl q) ?_
          show Go _ _ _ _ _ _ _ (T22.setTop (mkF m 299 #[.val (.int x1), .val (.int x2), .val (.int x3), .val (.int x4), .val (.int x5), .val (.long x6), .second, .val (.ref b1), .val (.ref s1), .val (.ref b2), .val (.ref s2), .val (.ref b3), .val (.ref s3), .val (.ref n1), .val (.ref n2), .val (.int (0 : Int32)), .val (.int (0 : Int32)), .val zJ18_0, .val zJ19_0, .val (.ref a), .val (.int (0 : Int32)), .val .null, .val .null] [(.ref a)]))
          refine Go.virtual X22 hx hZ (y := (⟨"com/example/lane/lane/AccessRecord", "upstream", "()Ljava/lang/String;"⟩ : MethodName)) (z := (⟨"com/example/lane/lane/AccessRecord", "upstream", "()Ljava/lang/String;"⟩ : MethodName)) (a := a) (argsL := []) hown (hw _ (List.mem_of_getElem? (i := 64) rfl)) (hw _ (List.mem_of_getElem? (i := 65) rfl)) (notFace_of_selects (args := #[]) (mvT hZ (hw _ (List.mem_of_getElem? (i := 67) rfl)))) (hw _ (List.mem_of_getElem? (i := 67) rfl)) (hw _ (List.mem_of_getElem? (i := 66) rfl)) (hw _ (List.mem_of_getElem? (i := 48) rfl)) (hw _ (List.mem_of_getElem? (i := 68) rfl)) (by decide) 0 e22 E_a (rm11 l Z a0 hw a .null rfl T21.heap n0 Zs F_a_upstream) (by decide) (by decide) (by decide) (by decide) (g := (mkF m 299 #[.val (.int x1), .val (.int x2), .val (.int x3), .val (.int x4), .val (.int x5), .val (.long x6), .second, .val (.ref b1), .val (.ref s1), .val (.ref b2), .val (.ref s2), .val (.ref b3), .val (.ref s3), .val (.ref n1), .val (.ref n2), .val (.int (0 : Int32)), .val (.int (0 : Int32)), .val zJ18_0, .val zJ19_0, .val (.ref a), .val (.int (0 : Int32)), .val .null, .val .null] [(.ref a)])) rfl (by rw [hml]; rfl) (rest := []) (lenOf pd9 rfl) rfl (by show 2 * 0 + _ ≤ _; exact Nat.le_of_eq rfl) (hb hby at_299) ?_
          intro T23 v23 L23 X23 q23
          obtain ⟨rfl, Nq23, e23⟩ := q23
          have N23 := Fr.app N22 Nq23
          show Go _ _ _ _ _ _ _ (T23.setTop (mkF m 302 #[.val (.int x1), .val (.int x2), .val (.int x3), .val (.int x4), .val (.int x5), .val (.long x6), .second, .val (.ref b1), .val (.ref s1), .val (.ref b2), .val (.ref s2), .val (.ref b3), .val (.ref s3), .val (.ref n1), .val (.ref n2), .val (.int (0 : Int32)), .val (.int (0 : Int32)), .val zJ18_0, .val zJ19_0, .val (.ref a), .val (.int (0 : Int32)), .val .null, .val .null] [.null]))
          refine Go.of (fun _ q => XS.aload X23.here hx rfl (hb hby at_302) rfl rfl q) ?_
          show Go _ _ _ _ _ _ _ (T23.setTop (mkF m 304 #[.val (.int x1), .val (.int x2), .val (.int x3), .val (.int x4), .val (.int x5), .val (.long x6), .second, .val (.ref b1), .val (.ref s1), .val (.ref b2), .val (.ref s2), .val (.ref b3), .val (.ref s3), .val (.ref n1), .val (.ref n2), .val (.int (0 : Int32)), .val (.int (0 : Int32)), .val zJ18_0, .val zJ19_0, .val (.ref a), .val (.int (0 : Int32)), .val .null, .val .null] [.null, .null]))
          refine Go.of (fun _ q => Jvm.RoadKit.acmp (g := (mkF m 304 #[.val (.int x1), .val (.int x2), .val (.int x3), .val (.int x4), .val (.int x5), .val (.long x6), .second, .val (.ref b1), .val (.ref s1), .val (.ref b2), .val (.ref s2), .val (.ref b3), .val (.ref s3), .val (.ref n1), .val (.ref n2), .val (.int (0 : Int32)), .val (.int (0 : Int32)), .val zJ18_0, .val zJ19_0, .val (.ref a), .val (.int (0 : Int32)), .val .null, .val .null] [.null, .null])) X23 hx rfl rfl rfl (pc0 := 304) (pc' := 307) (same := true) rfl (hb hby at_304) rfl (decide_eq_true rfl) (by decide) (by decide) q) ?_
          show Go _ _ _ _ _ _ _ (T23.setTop (mkF m 307 #[.val (.int x1), .val (.int x2), .val (.int x3), .val (.int x4), .val (.int x5), .val (.long x6), .second, .val (.ref b1), .val (.ref s1), .val (.ref b2), .val (.ref s2), .val (.ref b3), .val (.ref s3), .val (.ref n1), .val (.ref n2), .val (.int (0 : Int32)), .val (.int (0 : Int32)), .val zJ18_0, .val zJ19_0, .val (.ref a), .val (.int (0 : Int32)), .val .null, .val .null] []))
          refine Go.of (fun _ q => XS.aload X23.here hx rfl (hb hby at_307) rfl rfl q) ?_
          show Go _ _ _ _ _ _ _ (T23.setTop (mkF m 309 #[.val (.int x1), .val (.int x2), .val (.int x3), .val (.int x4), .val (.int x5), .val (.long x6), .second, .val (.ref b1), .val (.ref s1), .val (.ref b2), .val (.ref s2), .val (.ref b3), .val (.ref s3), .val (.ref n1), .val (.ref n2), .val (.int (0 : Int32)), .val (.int (0 : Int32)), .val zJ18_0, .val zJ19_0, .val (.ref a), .val (.int (0 : Int32)), .val .null, .val .null] [(.ref a)]))
          refine Go.virtual X23 hx hZ (y := (⟨"com/example/lane/lane/AccessRecord", "node", "()Lcom/example/lane/lane/config/HostPort;"⟩ : MethodName)) (z := (⟨"com/example/lane/lane/AccessRecord", "node", "()Lcom/example/lane/lane/config/HostPort;"⟩ : MethodName)) (a := a) (argsL := []) hown (hw _ (List.mem_of_getElem? (i := 71) rfl)) (hw _ (List.mem_of_getElem? (i := 72) rfl)) (notFace_of_selects (args := #[]) (mvT hZ (hw _ (List.mem_of_getElem? (i := 74) rfl)))) (hw _ (List.mem_of_getElem? (i := 74) rfl)) (hw _ (List.mem_of_getElem? (i := 73) rfl)) (hw _ (List.mem_of_getElem? (i := 48) rfl)) (hw _ (List.mem_of_getElem? (i := 75) rfl)) (by decide) 0 e23 E_a (rm12 l Z a0 hw a .null rfl T21.heap n0 Zs F_a_node) (by decide) (by decide) (by decide) (by decide) (g := (mkF m 309 #[.val (.int x1), .val (.int x2), .val (.int x3), .val (.int x4), .val (.int x5), .val (.long x6), .second, .val (.ref b1), .val (.ref s1), .val (.ref b2), .val (.ref s2), .val (.ref b3), .val (.ref s3), .val (.ref n1), .val (.ref n2), .val (.int (0 : Int32)), .val (.int (0 : Int32)), .val zJ18_0, .val zJ19_0, .val (.ref a), .val (.int (0 : Int32)), .val .null, .val .null] [(.ref a)])) rfl (by rw [hml]; rfl) (rest := []) (lenOf pd10 rfl) rfl (by show 2 * 0 + _ ≤ _; exact Nat.le_of_eq rfl) (hb hby at_309) ?_
          intro T24 v24 L24 X24 q24
          obtain ⟨rfl, Nq24, e24⟩ := q24
          have N24 := Fr.app N23 Nq24
          show Go _ _ _ _ _ _ _ (T24.setTop (mkF m 312 #[.val (.int x1), .val (.int x2), .val (.int x3), .val (.int x4), .val (.int x5), .val (.long x6), .second, .val (.ref b1), .val (.ref s1), .val (.ref b2), .val (.ref s2), .val (.ref b3), .val (.ref s3), .val (.ref n1), .val (.ref n2), .val (.int (0 : Int32)), .val (.int (0 : Int32)), .val zJ18_0, .val zJ19_0, .val (.ref a), .val (.int (0 : Int32)), .val .null, .val .null] [.null]))
          refine Go.of (fun _ q => XS.aload X24.here hx rfl (hb hby at_312) rfl rfl q) ?_
          show Go _ _ _ _ _ _ _ (T24.setTop (mkF m 314 #[.val (.int x1), .val (.int x2), .val (.int x3), .val (.int x4), .val (.int x5), .val (.long x6), .second, .val (.ref b1), .val (.ref s1), .val (.ref b2), .val (.ref s2), .val (.ref b3), .val (.ref s3), .val (.ref n1), .val (.ref n2), .val (.int (0 : Int32)), .val (.int (0 : Int32)), .val zJ18_0, .val zJ19_0, .val (.ref a), .val (.int (0 : Int32)), .val .null, .val .null] [.null, .null]))
          refine Go.of (fun _ q => Jvm.RoadKit.acmp (g := (mkF m 314 #[.val (.int x1), .val (.int x2), .val (.int x3), .val (.int x4), .val (.int x5), .val (.long x6), .second, .val (.ref b1), .val (.ref s1), .val (.ref b2), .val (.ref s2), .val (.ref b3), .val (.ref s3), .val (.ref n1), .val (.ref n2), .val (.int (0 : Int32)), .val (.int (0 : Int32)), .val zJ18_0, .val zJ19_0, .val (.ref a), .val (.int (0 : Int32)), .val .null, .val .null] [.null, .null])) X24 hx rfl rfl rfl (pc0 := 314) (pc' := 317) (same := true) rfl (hb hby at_314) rfl (decide_eq_true rfl) (by decide) (by decide) q) ?_
          show Go _ _ _ _ _ _ _ (T24.setTop (mkF m 317 #[.val (.int x1), .val (.int x2), .val (.int x3), .val (.int x4), .val (.int x5), .val (.long x6), .second, .val (.ref b1), .val (.ref s1), .val (.ref b2), .val (.ref s2), .val (.ref b3), .val (.ref s3), .val (.ref n1), .val (.ref n2), .val (.int (0 : Int32)), .val (.int (0 : Int32)), .val zJ18_0, .val zJ19_0, .val (.ref a), .val (.int (0 : Int32)), .val .null, .val .null] []))
          refine Go.of (fun _ q => XS.aload X24.here hx rfl (hb hby at_317) rfl rfl q) ?_
          show Go _ _ _ _ _ _ _ (T24.setTop (mkF m 319 #[.val (.int x1), .val (.int x2), .val (.int x3), .val (.int x4), .val (.int x5), .val (.long x6), .second, .val (.ref b1), .val (.ref s1), .val (.ref b2), .val (.ref s2), .val (.ref b3), .val (.ref s3), .val (.ref n1), .val (.ref n2), .val (.int (0 : Int32)), .val (.int (0 : Int32)), .val zJ18_0, .val zJ19_0, .val (.ref a), .val (.int (0 : Int32)), .val .null, .val .null] [(.ref a)]))
          refine Go.virtual X24 hx hZ (y := (⟨"com/example/lane/lane/AccessRecord", "status", "()I"⟩ : MethodName)) (z := (⟨"com/example/lane/lane/AccessRecord", "status", "()I"⟩ : MethodName)) (a := a) (argsL := []) hown (hw _ (List.mem_of_getElem? (i := 78) rfl)) (hw _ (List.mem_of_getElem? (i := 79) rfl)) (notFace_of_selects (args := #[]) (mvT hZ (hw _ (List.mem_of_getElem? (i := 81) rfl)))) (hw _ (List.mem_of_getElem? (i := 81) rfl)) (hw _ (List.mem_of_getElem? (i := 80) rfl)) (hw _ (List.mem_of_getElem? (i := 48) rfl)) (hw _ (List.mem_of_getElem? (i := 82) rfl)) (by decide) 0 e24 E_a (rm13 l Z a0 hw a T21.heap n0 Zs F_a_status) (by decide) (by decide) (by decide) (by decide) (g := (mkF m 319 #[.val (.int x1), .val (.int x2), .val (.int x3), .val (.int x4), .val (.int x5), .val (.long x6), .second, .val (.ref b1), .val (.ref s1), .val (.ref b2), .val (.ref s2), .val (.ref b3), .val (.ref s3), .val (.ref n1), .val (.ref n2), .val (.int (0 : Int32)), .val (.int (0 : Int32)), .val zJ18_0, .val zJ19_0, .val (.ref a), .val (.int (0 : Int32)), .val .null, .val .null] [(.ref a)])) rfl (by rw [hml]; rfl) (rest := []) (lenOf pd8 rfl) rfl (by show 2 * 0 + _ ≤ _; exact Nat.le_of_eq rfl) (hb hby at_319) ?_
          intro T25 v25 L25 X25 q25
          obtain ⟨rfl, Nq25, e25⟩ := q25
          have N25 := Fr.app N24 Nq25
          show Go _ _ _ _ _ _ _ (T25.setTop (mkF m 322 #[.val (.int x1), .val (.int x2), .val (.int x3), .val (.int x4), .val (.int x5), .val (.long x6), .second, .val (.ref b1), .val (.ref s1), .val (.ref b2), .val (.ref s2), .val (.ref b3), .val (.ref s3), .val (.ref n1), .val (.ref n2), .val (.int (0 : Int32)), .val (.int (0 : Int32)), .val zJ18_0, .val zJ19_0, .val (.ref a), .val (.int (0 : Int32)), .val .null, .val .null] [(.int (499 : Int32))]))
          refine Go.of (fun _ q => XS.sipush X25.here hx rfl (hb hby at_322) q) ?_
          show Go _ _ _ _ _ _ _ (T25.setTop (mkF m 325 #[.val (.int x1), .val (.int x2), .val (.int x3), .val (.int x4), .val (.int x5), .val (.long x6), .second, .val (.ref b1), .val (.ref s1), .val (.ref b2), .val (.ref s2), .val (.ref b3), .val (.ref s3), .val (.ref n1), .val (.ref n2), .val (.int (0 : Int32)), .val (.int (0 : Int32)), .val zJ18_0, .val zJ19_0, .val (.ref a), .val (.int (0 : Int32)), .val .null, .val .null] [(.int (499 : Int32)), (.int (499 : Int32))]))
          refine Go.of (fun _ q => XS.icmpNo X25.here hx rfl (hb hby at_325) rfl (teq rfl).2 q) ?_
          show Go _ _ _ _ _ _ _ (T25.setTop (mkF m 328 #[.val (.int x1), .val (.int x2), .val (.int x3), .val (.int x4), .val (.int x5), .val (.long x6), .second, .val (.ref b1), .val (.ref s1), .val (.ref b2), .val (.ref s2), .val (.ref b3), .val (.ref s3), .val (.ref n1), .val (.ref n2), .val (.int (0 : Int32)), .val (.int (0 : Int32)), .val zJ18_0, .val zJ19_0, .val (.ref a), .val (.int (0 : Int32)), .val .null, .val .null] []))
          refine Go.of (fun _ q => XS.aload X25.here hx rfl (hb hby at_328) rfl rfl q) ?_
          show Go _ _ _ _ _ _ _ (T25.setTop (mkF m 330 #[.val (.int x1), .val (.int x2), .val (.int x3), .val (.int x4), .val (.int x5), .val (.long x6), .second, .val (.ref b1), .val (.ref s1), .val (.ref b2), .val (.ref s2), .val (.ref b3), .val (.ref s3), .val (.ref n1), .val (.ref n2), .val (.int (0 : Int32)), .val (.int (0 : Int32)), .val zJ18_0, .val zJ19_0, .val (.ref a), .val (.int (0 : Int32)), .val .null, .val .null] [(.ref a)]))
          refine Go.virtual X25 hx hZ (y := (⟨"com/example/lane/lane/AccessRecord", "route", "()Ljava/lang/String;"⟩ : MethodName)) (z := (⟨"com/example/lane/lane/AccessRecord", "route", "()Ljava/lang/String;"⟩ : MethodName)) (a := a) (argsL := []) hown (hw _ (List.mem_of_getElem? (i := 85) rfl)) (hw _ (List.mem_of_getElem? (i := 86) rfl)) (notFace_of_selects (args := #[]) (mvT hZ (hw _ (List.mem_of_getElem? (i := 88) rfl)))) (hw _ (List.mem_of_getElem? (i := 88) rfl)) (hw _ (List.mem_of_getElem? (i := 87) rfl)) (hw _ (List.mem_of_getElem? (i := 48) rfl)) (hw _ (List.mem_of_getElem? (i := 89) rfl)) (by decide) 0 e25 E_a (rm14 l Z a0 hw a T21.heap n0 Zs F_a_route) (by decide) (by decide) (by decide) (by decide) (g := (mkF m 330 #[.val (.int x1), .val (.int x2), .val (.int x3), .val (.int x4), .val (.int x5), .val (.long x6), .second, .val (.ref b1), .val (.ref s1), .val (.ref b2), .val (.ref s2), .val (.ref b3), .val (.ref s3), .val (.ref n1), .val (.ref n2), .val (.int (0 : Int32)), .val (.int (0 : Int32)), .val zJ18_0, .val zJ19_0, .val (.ref a), .val (.int (0 : Int32)), .val .null, .val .null] [(.ref a)])) rfl (by rw [hml]; rfl) (rest := []) (lenOf pd9 rfl) rfl (by show 2 * 0 + _ ≤ _; exact Nat.le_of_eq rfl) (hb hby at_330) ?_
          intro T26 v26 L26 X26 q26
          obtain ⟨rfl, Nq26, e26⟩ := q26
          have N26 := Fr.app N25 Nq26
          show Go _ _ _ _ _ _ _ (T26.setTop (mkF m 333 #[.val (.int x1), .val (.int x2), .val (.int x3), .val (.int x4), .val (.int x5), .val (.long x6), .second, .val (.ref b1), .val (.ref s1), .val (.ref b2), .val (.ref s2), .val (.ref b3), .val (.ref s3), .val (.ref n1), .val (.ref n2), .val (.int (0 : Int32)), .val (.int (0 : Int32)), .val zJ18_0, .val zJ19_0, .val (.ref a), .val (.int (0 : Int32)), .val .null, .val .null] [.null]))
          refine Go.of (fun _ q => XS.ifnonnullNo X26.here hx rfl (hb hby at_333) rfl q) ?_
          show Go _ _ _ _ _ _ _ (T26.setTop (mkF m 336 #[.val (.int x1), .val (.int x2), .val (.int x3), .val (.int x4), .val (.int x5), .val (.long x6), .second, .val (.ref b1), .val (.ref s1), .val (.ref b2), .val (.ref s2), .val (.ref b3), .val (.ref s3), .val (.ref n1), .val (.ref n2), .val (.int (0 : Int32)), .val (.int (0 : Int32)), .val zJ18_0, .val zJ19_0, .val (.ref a), .val (.int (0 : Int32)), .val .null, .val .null] []))
          refine Go.of (fun _ q => XS.iconst X26.here hx rfl (hb hby at_336) q) ?_
          show Go _ _ _ _ _ _ _ (T26.setTop (mkF m 337 #[.val (.int x1), .val (.int x2), .val (.int x3), .val (.int x4), .val (.int x5), .val (.long x6), .second, .val (.ref b1), .val (.ref s1), .val (.ref b2), .val (.ref s2), .val (.ref b3), .val (.ref s3), .val (.ref n1), .val (.ref n2), .val (.int (0 : Int32)), .val (.int (0 : Int32)), .val zJ18_0, .val zJ19_0, .val (.ref a), .val (.int (0 : Int32)), .val .null, .val .null] [(.int (1 : Int32))]))
          refine Go.of (fun _ q => XS.goto X26.here hx rfl (pc0 := 337) (pc' := 341) rfl (hb hby at_337) (by decide) (by decide) q) ?_
          show Go _ _ _ _ _ _ _ (T26.setTop (mkF m 341 #[.val (.int x1), .val (.int x2), .val (.int x3), .val (.int x4), .val (.int x5), .val (.long x6), .second, .val (.ref b1), .val (.ref s1), .val (.ref b2), .val (.ref s2), .val (.ref b3), .val (.ref s3), .val (.ref n1), .val (.ref n2), .val (.int (0 : Int32)), .val (.int (0 : Int32)), .val zJ18_0, .val zJ19_0, .val (.ref a), .val (.int (0 : Int32)), .val .null, .val .null] [(.int (1 : Int32))]))
          refine Go.retN X26 hx hlk (t := .boolean) hret (by simp) (hb hby at_341) rfl (by decide) (by decide) ?_
          rw [e26]
          exact ⟨rfl, N26⟩
        by_cases c166 : (x5 &&& (8 : Int32)) = (0 : Int32)
        · refine Go.of (fun _ q => XS.ifYes X17.here hx rfl (pc0 := 166) (pc' := 173) rfl (hb hby at_166) rfl ((if0 _ _).trans (teq c166).1) (by decide) (by decide) q) ?_
          show Go _ _ _ _ _ _ _ (T17.setTop (mkF m 173 #[.val (.int x1), .val (.int x2), .val (.int x3), .val (.int x4), .val (.int x5), .val (.long x6), .second, .val (.ref b1), .val (.ref s1), .val (.ref b2), .val (.ref s2), .val (.ref b3), .val (.ref s3), .val (.ref n1), .val (.ref n2), .val (.int (0 : Int32)), .val (.int (0 : Int32)), .val zJ18_0, .unset, .unset, .unset, .unset, .unset] []))
          refine Go.of (fun _ q => XS.aload X17.here hx rfl (hb hby at_173) rfl rfl q) ?_
          show Go _ _ _ _ _ _ _ (T17.setTop (mkF m 175 #[.val (.int x1), .val (.int x2), .val (.int x3), .val (.int x4), .val (.int x5), .val (.long x6), .second, .val (.ref b1), .val (.ref s1), .val (.ref b2), .val (.ref s2), .val (.ref b3), .val (.ref s3), .val (.ref n1), .val (.ref n2), .val (.int (0 : Int32)), .val (.int (0 : Int32)), .val zJ18_0, .unset, .unset, .unset, .unset, .unset] [(.ref n2)]))
          exact J19 _ (by rw [if_pos c166]) rfl
        · refine Go.of (fun _ q => XS.ifNo X17.here hx rfl (hb hby at_166) rfl ((if0 _ _).trans (feq c166).1) q) ?_
          show Go _ _ _ _ _ _ _ (T17.setTop (mkF m 169 #[.val (.int x1), .val (.int x2), .val (.int x3), .val (.int x4), .val (.int x5), .val (.long x6), .second, .val (.ref b1), .val (.ref s1), .val (.ref b2), .val (.ref s2), .val (.ref b3), .val (.ref s3), .val (.ref n1), .val (.ref n2), .val (.int (0 : Int32)), .val (.int (0 : Int32)), .val zJ18_0, .unset, .unset, .unset, .unset, .unset] []))
          refine Go.of (fun _ q => XS.aconstNull X17.here hx rfl (hb hby at_169) q) ?_
          show Go _ _ _ _ _ _ _ (T17.setTop (mkF m 170 #[.val (.int x1), .val (.int x2), .val (.int x3), .val (.int x4), .val (.int x5), .val (.long x6), .second, .val (.ref b1), .val (.ref s1), .val (.ref b2), .val (.ref s2), .val (.ref b3), .val (.ref s3), .val (.ref n1), .val (.ref n2), .val (.int (0 : Int32)), .val (.int (0 : Int32)), .val zJ18_0, .unset, .unset, .unset, .unset, .unset] [.null]))
          refine Go.of (fun _ q => XS.goto X17.here hx rfl (pc0 := 170) (pc' := 175) rfl (hb hby at_170) (by decide) (by decide) q) ?_
          show Go _ _ _ _ _ _ _ (T17.setTop (mkF m 175 #[.val (.int x1), .val (.int x2), .val (.int x3), .val (.int x4), .val (.int x5), .val (.long x6), .second, .val (.ref b1), .val (.ref s1), .val (.ref b2), .val (.ref s2), .val (.ref b3), .val (.ref s3), .val (.ref n1), .val (.ref n2), .val (.int (0 : Int32)), .val (.int (0 : Int32)), .val zJ18_0, .unset, .unset, .unset, .unset, .unset] [.null]))
          exact J19 _ (by rw [if_neg c166]) rfl
      by_cases c150 : (x5 &&& (4 : Int32)) = (0 : Int32)
      · refine Go.of (fun _ q => XS.ifYes X17.here hx rfl (pc0 := 150) (pc' := 157) rfl (hb hby at_150) rfl ((if0 _ _).trans (teq c150).1) (by decide) (by decide) q) ?_
        show Go _ _ _ _ _ _ _ (T17.setTop (mkF m 157 #[.val (.int x1), .val (.int x2), .val (.int x3), .val (.int x4), .val (.int x5), .val (.long x6), .second, .val (.ref b1), .val (.ref s1), .val (.ref b2), .val (.ref s2), .val (.ref b3), .val (.ref s3), .val (.ref n1), .val (.ref n2), .val (.int (0 : Int32)), .val (.int (0 : Int32)), .unset, .unset, .unset, .unset, .unset, .unset] []))
        refine Go.of (fun _ q => XS.aload X17.here hx rfl (hb hby at_157) rfl rfl q) ?_
        show Go _ _ _ _ _ _ _ (T17.setTop (mkF m 159 #[.val (.int x1), .val (.int x2), .val (.int x3), .val (.int x4), .val (.int x5), .val (.long x6), .second, .val (.ref b1), .val (.ref s1), .val (.ref b2), .val (.ref s2), .val (.ref b3), .val (.ref s3), .val (.ref n1), .val (.ref n2), .val (.int (0 : Int32)), .val (.int (0 : Int32)), .unset, .unset, .unset, .unset, .unset, .unset] [(.ref s2)]))
        exact J18 _ (by rw [if_pos c150]) rfl
      · refine Go.of (fun _ q => XS.ifNo X17.here hx rfl (hb hby at_150) rfl ((if0 _ _).trans (feq c150).1) q) ?_
        show Go _ _ _ _ _ _ _ (T17.setTop (mkF m 153 #[.val (.int x1), .val (.int x2), .val (.int x3), .val (.int x4), .val (.int x5), .val (.long x6), .second, .val (.ref b1), .val (.ref s1), .val (.ref b2), .val (.ref s2), .val (.ref b3), .val (.ref s3), .val (.ref n1), .val (.ref n2), .val (.int (0 : Int32)), .val (.int (0 : Int32)), .unset, .unset, .unset, .unset, .unset, .unset] []))
        refine Go.of (fun _ q => XS.aconstNull X17.here hx rfl (hb hby at_153) q) ?_
        show Go _ _ _ _ _ _ _ (T17.setTop (mkF m 154 #[.val (.int x1), .val (.int x2), .val (.int x3), .val (.int x4), .val (.int x5), .val (.long x6), .second, .val (.ref b1), .val (.ref s1), .val (.ref b2), .val (.ref s2), .val (.ref b3), .val (.ref s3), .val (.ref n1), .val (.ref n2), .val (.int (0 : Int32)), .val (.int (0 : Int32)), .unset, .unset, .unset, .unset, .unset, .unset] [.null]))
        refine Go.of (fun _ q => XS.goto X17.here hx rfl (pc0 := 154) (pc' := 159) rfl (hb hby at_154) (by decide) (by decide) q) ?_
        show Go _ _ _ _ _ _ _ (T17.setTop (mkF m 159 #[.val (.int x1), .val (.int x2), .val (.int x3), .val (.int x4), .val (.int x5), .val (.long x6), .second, .val (.ref b1), .val (.ref s1), .val (.ref b2), .val (.ref s2), .val (.ref b3), .val (.ref s3), .val (.ref n1), .val (.ref n2), .val (.int (0 : Int32)), .val (.int (0 : Int32)), .unset, .unset, .unset, .unset, .unset, .unset] [.null]))
        exact J18 _ (by rw [if_neg c150]) rfl
    · refine Go.of (fun _ q => XS.ifNo X17.here hx rfl (hb hby at_136) rfl ((if0 _ _).trans (feq c136).1) q) ?_
      show Go _ _ _ _ _ _ _ (T17.setTop (mkF m 139 #[.val (.int x1), .val (.int x2), .val (.int x3), .val (.int x4), .val (.int x5), .val (.long x6), .second, .val (.ref b1), .val (.ref s1), .val (.ref b2), .val (.ref s2), .val (.ref b3), .val (.ref s3), .val (.ref n1), .val (.ref n2), .val (.int (0 : Int32)), .unset, .unset, .unset, .unset, .unset, .unset, .unset] []))
      refine Go.of (fun _ q => XS.iconst X17.here hx rfl (hb hby at_139) q) ?_
      show Go _ _ _ _ _ _ _ (T17.setTop (mkF m 140 #[.val (.int x1), .val (.int x2), .val (.int x3), .val (.int x4), .val (.int x5), .val (.long x6), .second, .val (.ref b1), .val (.ref s1), .val (.ref b2), .val (.ref s2), .val (.ref b3), .val (.ref s3), .val (.ref n1), .val (.ref n2), .val (.int (0 : Int32)), .unset, .unset, .unset, .unset, .unset, .unset, .unset] [(.int (1 : Int32))]))
      refine Go.of (fun _ q => XS.goto X17.here hx rfl (pc0 := 140) (pc' := 144) rfl (hb hby at_140) (by decide) (by decide) q) ?_
      show Go _ _ _ _ _ _ _ (T17.setTop (mkF m 144 #[.val (.int x1), .val (.int x2), .val (.int x3), .val (.int x4), .val (.int x5), .val (.long x6), .second, .val (.ref b1), .val (.ref s1), .val (.ref b2), .val (.ref s2), .val (.ref b3), .val (.ref s3), .val (.ref n1), .val (.ref n2), .val (.int (0 : Int32)), .unset, .unset, .unset, .unset, .unset, .unset, .unset] [(.int (1 : Int32))]))
      refine Go.of (fun _ q => XS.istore X17.here hx rfl (hb hby at_144) rfl (l' := #[.val (.int x1), .val (.int x2), .val (.int x3), .val (.int x4), .val (.int x5), .val (.long x6), .second, .val (.ref b1), .val (.ref s1), .val (.ref b2), .val (.ref s2), .val (.ref b3), .val (.ref s3), .val (.ref n1), .val (.ref n2), .val (.int (0 : Int32)), .val (.int (1 : Int32)), .unset, .unset, .unset, .unset, .unset, .unset]) rfl q) ?_
      show Go _ _ _ _ _ _ _ (T17.setTop (mkF m 146 #[.val (.int x1), .val (.int x2), .val (.int x3), .val (.int x4), .val (.int x5), .val (.long x6), .second, .val (.ref b1), .val (.ref s1), .val (.ref b2), .val (.ref s2), .val (.ref b3), .val (.ref s3), .val (.ref n1), .val (.ref n2), .val (.int (0 : Int32)), .val (.int (1 : Int32)), .unset, .unset, .unset, .unset, .unset, .unset] []))
      refine Go.of (fun _ q => XS.iload X17.here hx rfl (hb hby at_146) rfl q) ?_
      show Go _ _ _ _ _ _ _ (T17.setTop (mkF m 148 #[.val (.int x1), .val (.int x2), .val (.int x3), .val (.int x4), .val (.int x5), .val (.long x6), .second, .val (.ref b1), .val (.ref s1), .val (.ref b2), .val (.ref s2), .val (.ref b3), .val (.ref s3), .val (.ref n1), .val (.ref n2), .val (.int (0 : Int32)), .val (.int (1 : Int32)), .unset, .unset, .unset, .unset, .unset, .unset] [(.int x5)]))
      refine Go.of (fun _ q => XS.iconst X17.here hx rfl (hb hby at_148) q) ?_
      show Go _ _ _ _ _ _ _ (T17.setTop (mkF m 149 #[.val (.int x1), .val (.int x2), .val (.int x3), .val (.int x4), .val (.int x5), .val (.long x6), .second, .val (.ref b1), .val (.ref s1), .val (.ref b2), .val (.ref s2), .val (.ref b3), .val (.ref s3), .val (.ref n1), .val (.ref n2), .val (.int (0 : Int32)), .val (.int (1 : Int32)), .unset, .unset, .unset, .unset, .unset, .unset] [(.int (4 : Int32)), (.int x5)]))
      refine Go.of (fun _ q => XS.iand X17.here hx rfl (hb hby at_149) rfl q) ?_
      show Go _ _ _ _ _ _ _ (T17.setTop (mkF m 150 #[.val (.int x1), .val (.int x2), .val (.int x3), .val (.int x4), .val (.int x5), .val (.long x6), .second, .val (.ref b1), .val (.ref s1), .val (.ref b2), .val (.ref s2), .val (.ref b3), .val (.ref s3), .val (.ref n1), .val (.ref n2), .val (.int (0 : Int32)), .val (.int (1 : Int32)), .unset, .unset, .unset, .unset, .unset, .unset] [(.int (x5 &&& (4 : Int32)))]))
      have J27 : ∀ (zJ27_0 : Value), zJ27_0 = ((if (x5 &&& (4 : Int32)) = (0 : Int32) then (.ref s2) else .null) : Value) → zJ27_0.isRef = true → Go p e below s room_1.cells room_1.slots (Q0 Z x1 x2 x3 x4 x5 x6 cs h0 n0) (T17.setTop (mkF m 159 #[.val (.int x1), .val (.int x2), .val (.int x3), .val (.int x4), .val (.int x5), .val (.long x6), .second, .val (.ref b1), .val (.ref s1), .val (.ref b2), .val (.ref s2), .val (.ref b3), .val (.ref s3), .val (.ref n1), .val (.ref n2), .val (.int (0 : Int32)), .val (.int (1 : Int32)), .unset, .unset, .unset, .unset, .unset, .unset] [zJ27_0])) := by
        intro zJ27_0 hzJ27_0 rzJ27_0
        show Go _ _ _ _ _ _ _ (T17.setTop (mkF m 159 #[.val (.int x1), .val (.int x2), .val (.int x3), .val (.int x4), .val (.int x5), .val (.long x6), .second, .val (.ref b1), .val (.ref s1), .val (.ref b2), .val (.ref s2), .val (.ref b3), .val (.ref s3), .val (.ref n1), .val (.ref n2), .val (.int (0 : Int32)), .val (.int (1 : Int32)), .unset, .unset, .unset, .unset, .unset, .unset] [zJ27_0]))
        refine Go.of (fun _ q => XS.astore X17.here hx rfl (hb hby at_159) rfl rzJ27_0 (l' := #[.val (.int x1), .val (.int x2), .val (.int x3), .val (.int x4), .val (.int x5), .val (.long x6), .second, .val (.ref b1), .val (.ref s1), .val (.ref b2), .val (.ref s2), .val (.ref b3), .val (.ref s3), .val (.ref n1), .val (.ref n2), .val (.int (0 : Int32)), .val (.int (1 : Int32)), .val zJ27_0, .unset, .unset, .unset, .unset, .unset]) (by first | rfl | (cases zJ27_0 <;> first | rfl | (simp [Value.isRef] at rzJ27_0; done))) q) ?_
        show Go _ _ _ _ _ _ _ (T17.setTop (mkF m 161 #[.val (.int x1), .val (.int x2), .val (.int x3), .val (.int x4), .val (.int x5), .val (.long x6), .second, .val (.ref b1), .val (.ref s1), .val (.ref b2), .val (.ref s2), .val (.ref b3), .val (.ref s3), .val (.ref n1), .val (.ref n2), .val (.int (0 : Int32)), .val (.int (1 : Int32)), .val zJ27_0, .unset, .unset, .unset, .unset, .unset] []))
        refine Go.of (fun _ q => XS.iload X17.here hx rfl (hb hby at_161) rfl q) ?_
        show Go _ _ _ _ _ _ _ (T17.setTop (mkF m 163 #[.val (.int x1), .val (.int x2), .val (.int x3), .val (.int x4), .val (.int x5), .val (.long x6), .second, .val (.ref b1), .val (.ref s1), .val (.ref b2), .val (.ref s2), .val (.ref b3), .val (.ref s3), .val (.ref n1), .val (.ref n2), .val (.int (0 : Int32)), .val (.int (1 : Int32)), .val zJ27_0, .unset, .unset, .unset, .unset, .unset] [(.int x5)]))
        refine Go.of (fun _ q => XS.bipush X17.here hx rfl (hb hby at_163) q) ?_
        show Go _ _ _ _ _ _ _ (T17.setTop (mkF m 165 #[.val (.int x1), .val (.int x2), .val (.int x3), .val (.int x4), .val (.int x5), .val (.long x6), .second, .val (.ref b1), .val (.ref s1), .val (.ref b2), .val (.ref s2), .val (.ref b3), .val (.ref s3), .val (.ref n1), .val (.ref n2), .val (.int (0 : Int32)), .val (.int (1 : Int32)), .val zJ27_0, .unset, .unset, .unset, .unset, .unset] [(.int (8 : Int32)), (.int x5)]))
        refine Go.of (fun _ q => XS.iand X17.here hx rfl (hb hby at_165) rfl q) ?_
        show Go _ _ _ _ _ _ _ (T17.setTop (mkF m 166 #[.val (.int x1), .val (.int x2), .val (.int x3), .val (.int x4), .val (.int x5), .val (.long x6), .second, .val (.ref b1), .val (.ref s1), .val (.ref b2), .val (.ref s2), .val (.ref b3), .val (.ref s3), .val (.ref n1), .val (.ref n2), .val (.int (0 : Int32)), .val (.int (1 : Int32)), .val zJ27_0, .unset, .unset, .unset, .unset, .unset] [(.int (x5 &&& (8 : Int32)))]))
        have J28 : ∀ (zJ28_0 : Value), zJ28_0 = ((if (x5 &&& (8 : Int32)) = (0 : Int32) then (.ref n2) else .null) : Value) → zJ28_0.isRef = true → Go p e below s room_1.cells room_1.slots (Q0 Z x1 x2 x3 x4 x5 x6 cs h0 n0) (T17.setTop (mkF m 175 #[.val (.int x1), .val (.int x2), .val (.int x3), .val (.int x4), .val (.int x5), .val (.long x6), .second, .val (.ref b1), .val (.ref s1), .val (.ref b2), .val (.ref s2), .val (.ref b3), .val (.ref s3), .val (.ref n1), .val (.ref n2), .val (.int (0 : Int32)), .val (.int (1 : Int32)), .val zJ27_0, .unset, .unset, .unset, .unset, .unset] [zJ28_0])) := by
          intro zJ28_0 hzJ28_0 rzJ28_0
          show Go _ _ _ _ _ _ _ (T17.setTop (mkF m 175 #[.val (.int x1), .val (.int x2), .val (.int x3), .val (.int x4), .val (.int x5), .val (.long x6), .second, .val (.ref b1), .val (.ref s1), .val (.ref b2), .val (.ref s2), .val (.ref b3), .val (.ref s3), .val (.ref n1), .val (.ref n2), .val (.int (0 : Int32)), .val (.int (1 : Int32)), .val zJ27_0, .unset, .unset, .unset, .unset, .unset] [zJ28_0]))
          refine Go.of (fun _ q => XS.astore X17.here hx rfl (hb hby at_175) rfl rzJ28_0 (l' := #[.val (.int x1), .val (.int x2), .val (.int x3), .val (.int x4), .val (.int x5), .val (.long x6), .second, .val (.ref b1), .val (.ref s1), .val (.ref b2), .val (.ref s2), .val (.ref b3), .val (.ref s3), .val (.ref n1), .val (.ref n2), .val (.int (0 : Int32)), .val (.int (1 : Int32)), .val zJ27_0, .val zJ28_0, .unset, .unset, .unset, .unset]) (by first | rfl | (cases zJ28_0 <;> first | rfl | (simp [Value.isRef] at rzJ28_0; done))) q) ?_
          show Go _ _ _ _ _ _ _ (T17.setTop (mkF m 177 #[.val (.int x1), .val (.int x2), .val (.int x3), .val (.int x4), .val (.int x5), .val (.long x6), .second, .val (.ref b1), .val (.ref s1), .val (.ref b2), .val (.ref s2), .val (.ref b3), .val (.ref s3), .val (.ref n1), .val (.ref n2), .val (.int (0 : Int32)), .val (.int (1 : Int32)), .val zJ27_0, .val zJ28_0, .unset, .unset, .unset, .unset] []))
          obtain ⟨T29, h29, X29, e29, E29, A29, D29, -, st29⟩ := newO X17 hx hZ hown (hw _ (List.mem_of_getElem? (i := 46) rfl)) (hw _ (List.mem_of_getElem? (i := 47) rfl)) (hw _ (List.mem_of_getElem? (i := 48) rfl)) rfl (g := (mkF m 177 #[.val (.int x1), .val (.int x2), .val (.int x3), .val (.int x4), .val (.int x5), .val (.long x6), .second, .val (.ref b1), .val (.ref s1), .val (.ref b2), .val (.ref s2), .val (.ref b3), .val (.ref s3), .val (.ref n1), .val (.ref n2), .val (.int (0 : Int32)), .val (.int (1 : Int32)), .val zJ27_0, .val zJ28_0, .unset, .unset, .unset, .unset] [])) rfl (hb hby at_177) (by decide) (by decide)
          obtain ⟨a, g29⟩ : ∃ z, z = T17.heap.size := ⟨_, rfl⟩
          rw [← g29] at A29 D29 st29
          refine Go.of st29 ?_
          have g_a : n0 ≤ a := Nat.le_trans Zs (Nat.le_of_eq g29.symm)
          have sz_a : h0.size ≤ a := Nat.le_trans Kp.1 (Nat.le_of_eq g29.symm)
          have ne_b1_a : b1 ≠ a := Nat.ne_of_lt (Nat.lt_of_lt_of_le E_b1.lt (Nat.le_of_eq g29.symm))
          have ne_s1_a : s1 ≠ a := Nat.ne_of_lt (Nat.lt_of_lt_of_le E_s1.lt (Nat.le_of_eq g29.symm))
          have ne_d1_a : d1 ≠ a := Nat.ne_of_lt (Nat.lt_of_lt_of_le A_d1.lt (Nat.le_of_eq g29.symm))
          have ne_b2_a : b2 ≠ a := Nat.ne_of_lt (Nat.lt_of_lt_of_le E_b2.lt (Nat.le_of_eq g29.symm))
          have ne_s2_a : s2 ≠ a := Nat.ne_of_lt (Nat.lt_of_lt_of_le E_s2.lt (Nat.le_of_eq g29.symm))
          have ne_d2_a : d2 ≠ a := Nat.ne_of_lt (Nat.lt_of_lt_of_le A_d2.lt (Nat.le_of_eq g29.symm))
          have ne_b3_a : b3 ≠ a := Nat.ne_of_lt (Nat.lt_of_lt_of_le E_b3.lt (Nat.le_of_eq g29.symm))
          have ne_s3_a : s3 ≠ a := Nat.ne_of_lt (Nat.lt_of_lt_of_le E_s3.lt (Nat.le_of_eq g29.symm))
          have ne_d3_a : d3 ≠ a := Nat.ne_of_lt (Nat.lt_of_lt_of_le A_d3.lt (Nat.le_of_eq g29.symm))
          have ne_n1_a : n1 ≠ a := Nat.ne_of_lt (Nat.lt_of_lt_of_le E_n1.lt (Nat.le_of_eq g29.symm))
          have ne_n2_a : n2 ≠ a := Nat.ne_of_lt (Nat.lt_of_lt_of_le E_n2.lt (Nat.le_of_eq g29.symm))
          have Zs := Nat.le_trans Zs E29.1
          have Kp := Kp.ext E29
          have Od := Od.ext E29
          have E_b1 := E_b1.ext E29
          have A_b1 := A_b1.ext E29
          have E_s1 := E_s1.ext E29
          have F_s1_value := F_s1_value.ext E29
          have F_s1_coder := F_s1_coder.ext E29
          have A_d1 := A_d1.ext E29
          have E_b2 := E_b2.ext E29
          have A_b2 := A_b2.ext E29
          have E_s2 := E_s2.ext E29
          have F_s2_value := F_s2_value.ext E29
          have F_s2_coder := F_s2_coder.ext E29
          have A_d2 := A_d2.ext E29
          have E_b3 := E_b3.ext E29
          have A_b3 := A_b3.ext E29
          have E_s3 := E_s3.ext E29
          have F_s3_value := F_s3_value.ext E29
          have F_s3_coder := F_s3_coder.ext E29
          have A_d3 := A_d3.ext E29
          have E_n1 := E_n1.ext E29
          have E_n2 := E_n2.ext E29
          have E_a := A29
          have F_a_client : Fld Z h29 a "com/example/lane/lane/AccessRecord" "client" "Ljava/lang/String;" .null := D29 (Or.inr (hw _ (List.mem_of_getElem? (i := 54) rfl))) (ty := (.object "java/lang/String")) (by decide)
          have F_a_start : Fld Z h29 a "com/example/lane/lane/AccessRecord" "start" "J" (.long (0 : Int64)) := D29 (Or.inr (hw _ (List.mem_of_getElem? (i := 56) rfl))) (ty := .long) (by decide)
          have F_a_attempts : Fld Z h29 a "com/example/lane/lane/AccessRecord" "attempts" "I" (.int (0 : Int32)) := D29 (Or.inl (hw _ (List.mem_of_getElem? (i := 63) rfl))) (ty := .int) (by decide)
          have F_a_upstream : Fld Z h29 a "com/example/lane/lane/AccessRecord" "upstream" "Ljava/lang/String;" .null := D29 (Or.inl (hw _ (List.mem_of_getElem? (i := 70) rfl))) (ty := (.object "java/lang/String")) (by decide)
          have F_a_node : Fld Z h29 a "com/example/lane/lane/AccessRecord" "node" "Lcom/example/lane/lane/config/HostPort;" .null := D29 (Or.inl (hw _ (List.mem_of_getElem? (i := 77) rfl))) (ty := (.object "com/example/lane/lane/config/HostPort")) (by decide)
          have F_a_status : Fld Z h29 a "com/example/lane/lane/AccessRecord" "status" "I" (.int (0 : Int32)) := D29 (Or.inl (hw _ (List.mem_of_getElem? (i := 84) rfl))) (ty := .int) (by decide)
          have F_a_route : Fld Z h29 a "com/example/lane/lane/AccessRecord" "route" "Ljava/lang/String;" .null := D29 (Or.inl (hw _ (List.mem_of_getElem? (i := 91) rfl))) (ty := (.object "java/lang/String")) (by decide)
          show Go _ _ _ _ _ _ _ (T29.setTop (mkF m 180 #[.val (.int x1), .val (.int x2), .val (.int x3), .val (.int x4), .val (.int x5), .val (.long x6), .second, .val (.ref b1), .val (.ref s1), .val (.ref b2), .val (.ref s2), .val (.ref b3), .val (.ref s3), .val (.ref n1), .val (.ref n2), .val (.int (0 : Int32)), .val (.int (1 : Int32)), .val zJ27_0, .val zJ28_0, .unset, .unset, .unset, .unset] [(.ref a)]))
          refine Go.of (fun _ q => XS.dup X29.here hx rfl (hb hby at_180) rfl rfl q) ?_
          show Go _ _ _ _ _ _ _ (T29.setTop (mkF m 181 #[.val (.int x1), .val (.int x2), .val (.int x3), .val (.int x4), .val (.int x5), .val (.long x6), .second, .val (.ref b1), .val (.ref s1), .val (.ref b2), .val (.ref s2), .val (.ref b3), .val (.ref s3), .val (.ref n1), .val (.ref n2), .val (.int (0 : Int32)), .val (.int (1 : Int32)), .val zJ27_0, .val zJ28_0, .unset, .unset, .unset, .unset] [(.ref a), (.ref a)]))
          refine Go.of (fun _ q => XS.aload X29.here hx rfl (hb hby at_181) rfl rfl q) ?_
          show Go _ _ _ _ _ _ _ (T29.setTop (mkF m 183 #[.val (.int x1), .val (.int x2), .val (.int x3), .val (.int x4), .val (.int x5), .val (.long x6), .second, .val (.ref b1), .val (.ref s1), .val (.ref b2), .val (.ref s2), .val (.ref b3), .val (.ref s3), .val (.ref n1), .val (.ref n2), .val (.int (0 : Int32)), .val (.int (1 : Int32)), .val zJ27_0, .val zJ28_0, .unset, .unset, .unset, .unset] [(.ref s3), (.ref a), (.ref a)]))
          refine Go.of (fun _ q => XS.lload X29.here hx rfl (hb hby at_183) rfl q) ?_
          show Go _ _ _ _ _ _ _ (T29.setTop (mkF m 185 #[.val (.int x1), .val (.int x2), .val (.int x3), .val (.int x4), .val (.int x5), .val (.long x6), .second, .val (.ref b1), .val (.ref s1), .val (.ref b2), .val (.ref s2), .val (.ref b3), .val (.ref s3), .val (.ref n1), .val (.ref n2), .val (.int (0 : Int32)), .val (.int (1 : Int32)), .val zJ27_0, .val zJ28_0, .unset, .unset, .unset, .unset] [(.long x6), (.ref s3), (.ref a), (.ref a)]))
          refine Go.special X29 hx hZ (y := (⟨"com/example/lane/lane/AccessRecord", "<init>", "(Ljava/lang/String;J)V"⟩ : MethodName)) (a := a) (argsL := [(.ref s3), (.long x6)]) rfl hown (hw _ (List.mem_of_getElem? (i := 49) rfl)) (hw _ (List.mem_of_getElem? (i := 50) rfl)) (hw _ (List.mem_of_getElem? (i := 48) rfl)) (hw _ (List.mem_of_getElem? (i := 51) rfl)) (by decide) 1 e29 (rm9 l Z a0 hw a s3 x6 .null (0 : Int64) .null .null (0 : Int32) h29 n0 Zs E_a F_a_client F_a_start F_a_upstream F_a_node F_a_attempts F_a_status F_a_route g_a) (by decide) (by decide) (by decide) (by decide) (g := (mkF m 185 #[.val (.int x1), .val (.int x2), .val (.int x3), .val (.int x4), .val (.int x5), .val (.long x6), .second, .val (.ref b1), .val (.ref s1), .val (.ref b2), .val (.ref s2), .val (.ref b3), .val (.ref s3), .val (.ref n1), .val (.ref n2), .val (.int (0 : Int32)), .val (.int (1 : Int32)), .val zJ27_0, .val zJ28_0, .unset, .unset, .unset, .unset] [(.long x6), (.ref s3), (.ref a), (.ref a)])) rfl (by rw [hml]; rfl) (rest := [(.ref a)]) (lenOf pd7 rfl) rfl (by show 2 * 0 + _ ≤ _; exact Nat.le_of_eq rfl) (hb hby at_185) ?_
          intro T30 v30 L30 X30 q30
          obtain ⟨rfl, Nq30, K30, f30_0, f30_1, f30_2, f30_3, f30_4, f30_5⟩ := q30
          have N30 := Fr.app N17 Nq30
          have Zs := Nat.le_trans Zs K30.1
          have Kp := Kp.trans K30 (allS (P := fun x => x ∈ [] ∨ h0.size ≤ x) (Or.inr sz_a) all0)
          have Od := Od.keep K30 (allS (P := fun x => n0 ≤ x) g_a all0)
          have E_b1 := E_b1.keep K30
          have A_b1 := A_b1.keep K30 (ninS ne_b1_a nin0)
          have E_s1 := E_s1.keep K30
          have F_s1_value := F_s1_value.keep K30 (ninS ne_s1_a nin0)
          have F_s1_coder := F_s1_coder.keep K30 (ninS ne_s1_a nin0)
          have A_d1 := A_d1.keep K30 (ninS ne_d1_a nin0)
          have E_b2 := E_b2.keep K30
          have A_b2 := A_b2.keep K30 (ninS ne_b2_a nin0)
          have E_s2 := E_s2.keep K30
          have F_s2_value := F_s2_value.keep K30 (ninS ne_s2_a nin0)
          have F_s2_coder := F_s2_coder.keep K30 (ninS ne_s2_a nin0)
          have A_d2 := A_d2.keep K30 (ninS ne_d2_a nin0)
          have E_b3 := E_b3.keep K30
          have A_b3 := A_b3.keep K30 (ninS ne_b3_a nin0)
          have E_s3 := E_s3.keep K30
          have F_s3_value := F_s3_value.keep K30 (ninS ne_s3_a nin0)
          have F_s3_coder := F_s3_coder.keep K30 (ninS ne_s3_a nin0)
          have A_d3 := A_d3.keep K30 (ninS ne_d3_a nin0)
          have E_n1 := E_n1.keep K30
          have E_n2 := E_n2.keep K30
          have E_a := E_a.keep K30
          have F_a_upstream := f30_1
          have F_a_node := f30_2
          have F_a_attempts := f30_3
          have F_a_status := f30_4
          have F_a_route := f30_5
          show Go _ _ _ _ _ _ _ (T30.setTop (mkF m 188 #[.val (.int x1), .val (.int x2), .val (.int x3), .val (.int x4), .val (.int x5), .val (.long x6), .second, .val (.ref b1), .val (.ref s1), .val (.ref b2), .val (.ref s2), .val (.ref b3), .val (.ref s3), .val (.ref n1), .val (.ref n2), .val (.int (0 : Int32)), .val (.int (1 : Int32)), .val zJ27_0, .val zJ28_0, .unset, .unset, .unset, .unset] [(.ref a)]))
          refine Go.of (fun _ q => XS.astore X30.here hx rfl (hb hby at_188) rfl rfl (l' := #[.val (.int x1), .val (.int x2), .val (.int x3), .val (.int x4), .val (.int x5), .val (.long x6), .second, .val (.ref b1), .val (.ref s1), .val (.ref b2), .val (.ref s2), .val (.ref b3), .val (.ref s3), .val (.ref n1), .val (.ref n2), .val (.int (0 : Int32)), .val (.int (1 : Int32)), .val zJ27_0, .val zJ28_0, .val (.ref a), .unset, .unset, .unset]) rfl q) ?_
          show Go _ _ _ _ _ _ _ (T30.setTop (mkF m 190 #[.val (.int x1), .val (.int x2), .val (.int x3), .val (.int x4), .val (.int x5), .val (.long x6), .second, .val (.ref b1), .val (.ref s1), .val (.ref b2), .val (.ref s2), .val (.ref b3), .val (.ref s3), .val (.ref n1), .val (.ref n2), .val (.int (0 : Int32)), .val (.int (1 : Int32)), .val zJ27_0, .val zJ28_0, .val (.ref a), .unset, .unset, .unset] []))
          refine Go.of (fun _ q => XS.iload X30.here hx rfl (hb hby at_190) rfl q) ?_
          show Go _ _ _ _ _ _ _ (T30.setTop (mkF m 192 #[.val (.int x1), .val (.int x2), .val (.int x3), .val (.int x4), .val (.int x5), .val (.long x6), .second, .val (.ref b1), .val (.ref s1), .val (.ref b2), .val (.ref s2), .val (.ref b3), .val (.ref s3), .val (.ref n1), .val (.ref n2), .val (.int (0 : Int32)), .val (.int (1 : Int32)), .val zJ27_0, .val zJ28_0, .val (.ref a), .unset, .unset, .unset] [(.int (0 : Int32))]))
          refine Go.of (fun _ q => XS.ifYes X30.here hx rfl (pc0 := 192) (pc' := 204) rfl (hb hby at_192) rfl ((if0 _ _).trans (teq rfl).1) (by decide) (by decide) q) ?_
          show Go _ _ _ _ _ _ _ (T30.setTop (mkF m 204 #[.val (.int x1), .val (.int x2), .val (.int x3), .val (.int x4), .val (.int x5), .val (.long x6), .second, .val (.ref b1), .val (.ref s1), .val (.ref b2), .val (.ref s2), .val (.ref b3), .val (.ref s3), .val (.ref n1), .val (.ref n2), .val (.int (0 : Int32)), .val (.int (1 : Int32)), .val zJ27_0, .val zJ28_0, .val (.ref a), .unset, .unset, .unset] []))
          refine Go.of (fun _ q => XS.iload X30.here hx rfl (hb hby at_204) rfl q) ?_
          show Go _ _ _ _ _ _ _ (T30.setTop (mkF m 206 #[.val (.int x1), .val (.int x2), .val (.int x3), .val (.int x4), .val (.int x5), .val (.long x6), .second, .val (.ref b1), .val (.ref s1), .val (.ref b2), .val (.ref s2), .val (.ref b3), .val (.ref s3), .val (.ref n1), .val (.ref n2), .val (.int (0 : Int32)), .val (.int (1 : Int32)), .val zJ27_0, .val zJ28_0, .val (.ref a), .unset, .unset, .unset] [(.int (1 : Int32))]))
          refine Go.of (fun _ q => XS.ifNo X30.here hx rfl (hb hby at_206) rfl ((if0 _ _).trans (feq (by decide)).1) q) ?_
          show Go _ _ _ _ _ _ _ (T30.setTop (mkF m 209 #[.val (.int x1), .val (.int x2), .val (.int x3), .val (.int x4), .val (.int x5), .val (.long x6), .second, .val (.ref b1), .val (.ref s1), .val (.ref b2), .val (.ref s2), .val (.ref b3), .val (.ref s3), .val (.ref n1), .val (.ref n2), .val (.int (0 : Int32)), .val (.int (1 : Int32)), .val zJ27_0, .val zJ28_0, .val (.ref a), .unset, .unset, .unset] []))
          refine Go.of (fun _ q => XS.aload X30.here hx rfl (hb hby at_209) rfl rfl q) ?_
          show Go _ _ _ _ _ _ _ (T30.setTop (mkF m 211 #[.val (.int x1), .val (.int x2), .val (.int x3), .val (.int x4), .val (.int x5), .val (.long x6), .second, .val (.ref b1), .val (.ref s1), .val (.ref b2), .val (.ref s2), .val (.ref b3), .val (.ref s3), .val (.ref n1), .val (.ref n2), .val (.int (0 : Int32)), .val (.int (1 : Int32)), .val zJ27_0, .val zJ28_0, .val (.ref a), .unset, .unset, .unset] [(.ref a)]))
          refine Go.of (fun _ q => XS.aload X30.here hx rfl (hb hby at_211) rfl rzJ27_0 q) ?_
          show Go _ _ _ _ _ _ _ (T30.setTop (mkF m 213 #[.val (.int x1), .val (.int x2), .val (.int x3), .val (.int x4), .val (.int x5), .val (.long x6), .second, .val (.ref b1), .val (.ref s1), .val (.ref b2), .val (.ref s2), .val (.ref b3), .val (.ref s3), .val (.ref n1), .val (.ref n2), .val (.int (0 : Int32)), .val (.int (1 : Int32)), .val zJ27_0, .val zJ28_0, .val (.ref a), .unset, .unset, .unset] [zJ27_0, (.ref a)]))
          refine Go.of (fun _ q => XS.aload X30.here hx rfl (hb hby at_213) rfl rzJ28_0 q) ?_
          show Go _ _ _ _ _ _ _ (T30.setTop (mkF m 215 #[.val (.int x1), .val (.int x2), .val (.int x3), .val (.int x4), .val (.int x5), .val (.long x6), .second, .val (.ref b1), .val (.ref s1), .val (.ref b2), .val (.ref s2), .val (.ref b3), .val (.ref s3), .val (.ref n1), .val (.ref n2), .val (.int (0 : Int32)), .val (.int (1 : Int32)), .val zJ27_0, .val zJ28_0, .val (.ref a), .unset, .unset, .unset] [zJ28_0, zJ27_0, (.ref a)]))
          refine Go.virtual X30 hx hZ (y := (⟨"com/example/lane/lane/AccessRecord", "tried", "(Ljava/lang/String;Lcom/example/lane/lane/config/HostPort;)V"⟩ : MethodName)) (z := (⟨"com/example/lane/lane/AccessRecord", "tried", "(Ljava/lang/String;Lcom/example/lane/lane/config/HostPort;)V"⟩ : MethodName)) (a := a) (argsL := [zJ27_0, zJ28_0]) hown (hw _ (List.mem_of_getElem? (i := 92) rfl)) (hw _ (List.mem_of_getElem? (i := 93) rfl)) (notFace_of_selects (args := #[]) (mvT hZ (hw _ (List.mem_of_getElem? (i := 95) rfl)))) (hw _ (List.mem_of_getElem? (i := 95) rfl)) (hw _ (List.mem_of_getElem? (i := 94) rfl)) (hw _ (List.mem_of_getElem? (i := 48) rfl)) (hw _ (List.mem_of_getElem? (i := 96) rfl)) (by decide) 0 rfl E_a (rm15 l Z a0 hw a zJ27_0 rzJ27_0 zJ28_0 rzJ28_0 .null .null (0 : Int32) T30.heap n0 Zs E_a F_a_upstream F_a_node F_a_attempts F_a_status F_a_route g_a) (by decide) (by decide) (by decide) (by decide) (g := (mkF m 215 #[.val (.int x1), .val (.int x2), .val (.int x3), .val (.int x4), .val (.int x5), .val (.long x6), .second, .val (.ref b1), .val (.ref s1), .val (.ref b2), .val (.ref s2), .val (.ref b3), .val (.ref s3), .val (.ref n1), .val (.ref n2), .val (.int (0 : Int32)), .val (.int (1 : Int32)), .val zJ27_0, .val zJ28_0, .val (.ref a), .unset, .unset, .unset] [zJ28_0, zJ27_0, (.ref a)])) rfl (by rw [hml]; rfl) (rest := []) (lenOf pd11 rfl) rfl (by show 2 * 0 + _ ≤ _; exact Nat.le_of_eq rfl) (hb hby at_215) ?_
          intro T31 v31 L31 X31 q31
          obtain ⟨rfl, Nq31, K31, f31_0, f31_1, f31_2, f31_3, f31_4, f31_5⟩ := q31
          have N31 := Fr.app N30 Nq31
          have Zs := Nat.le_trans Zs K31.1
          have Kp := Kp.trans K31 (allS (P := fun x => x ∈ [] ∨ h0.size ≤ x) (Or.inr sz_a) all0)
          have Od := Od.keep K31 (allS (P := fun x => n0 ≤ x) g_a all0)
          have E_b1 := E_b1.keep K31
          have A_b1 := A_b1.keep K31 (ninS ne_b1_a nin0)
          have E_s1 := E_s1.keep K31
          have F_s1_value := F_s1_value.keep K31 (ninS ne_s1_a nin0)
          have F_s1_coder := F_s1_coder.keep K31 (ninS ne_s1_a nin0)
          have A_d1 := A_d1.keep K31 (ninS ne_d1_a nin0)
          have E_b2 := E_b2.keep K31
          have A_b2 := A_b2.keep K31 (ninS ne_b2_a nin0)
          have E_s2 := E_s2.keep K31
          have F_s2_value := F_s2_value.keep K31 (ninS ne_s2_a nin0)
          have F_s2_coder := F_s2_coder.keep K31 (ninS ne_s2_a nin0)
          have A_d2 := A_d2.keep K31 (ninS ne_d2_a nin0)
          have E_b3 := E_b3.keep K31
          have A_b3 := A_b3.keep K31 (ninS ne_b3_a nin0)
          have E_s3 := E_s3.keep K31
          have F_s3_value := F_s3_value.keep K31 (ninS ne_s3_a nin0)
          have F_s3_coder := F_s3_coder.keep K31 (ninS ne_s3_a nin0)
          have A_d3 := A_d3.keep K31 (ninS ne_d3_a nin0)
          have E_n1 := E_n1.keep K31
          have E_n2 := E_n2.keep K31
          have E_a := E_a.keep K31
          have F_a_upstream := f31_1
          have F_a_node := f31_2
          have F_a_attempts := f31_3
          have F_a_status := f31_4
          have F_a_route := f31_5
          show Go _ _ _ _ _ _ _ (T31.setTop (mkF m 218 #[.val (.int x1), .val (.int x2), .val (.int x3), .val (.int x4), .val (.int x5), .val (.long x6), .second, .val (.ref b1), .val (.ref s1), .val (.ref b2), .val (.ref s2), .val (.ref b3), .val (.ref s3), .val (.ref n1), .val (.ref n2), .val (.int (0 : Int32)), .val (.int (1 : Int32)), .val zJ27_0, .val zJ28_0, .val (.ref a), .unset, .unset, .unset] []))
          refine Go.of (fun _ q => XS.iload X31.here hx rfl (hb hby at_218) rfl q) ?_
          show Go _ _ _ _ _ _ _ (T31.setTop (mkF m 220 #[.val (.int x1), .val (.int x2), .val (.int x3), .val (.int x4), .val (.int x5), .val (.long x6), .second, .val (.ref b1), .val (.ref s1), .val (.ref b2), .val (.ref s2), .val (.ref b3), .val (.ref s3), .val (.ref n1), .val (.ref n2), .val (.int (0 : Int32)), .val (.int (1 : Int32)), .val zJ27_0, .val zJ28_0, .val (.ref a), .unset, .unset, .unset] [(.int (0 : Int32))]))
          refine Go.of (fun _ q => XS.ifYes X31.here hx rfl (pc0 := 220) (pc' := 227) rfl (hb hby at_220) rfl ((if0 _ _).trans (teq rfl).1) (by decide) (by decide) q) ?_
          show Go _ _ _ _ _ _ _ (T31.setTop (mkF m 227 #[.val (.int x1), .val (.int x2), .val (.int x3), .val (.int x4), .val (.int x5), .val (.long x6), .second, .val (.ref b1), .val (.ref s1), .val (.ref b2), .val (.ref s2), .val (.ref b3), .val (.ref s3), .val (.ref n1), .val (.ref n2), .val (.int (0 : Int32)), .val (.int (1 : Int32)), .val zJ27_0, .val zJ28_0, .val (.ref a), .unset, .unset, .unset] []))
          refine Go.of (fun _ q => XS.iconst X31.here hx rfl (hb hby at_227) q) ?_
          show Go _ _ _ _ _ _ _ (T31.setTop (mkF m 228 #[.val (.int x1), .val (.int x2), .val (.int x3), .val (.int x4), .val (.int x5), .val (.long x6), .second, .val (.ref b1), .val (.ref s1), .val (.ref b2), .val (.ref s2), .val (.ref b3), .val (.ref s3), .val (.ref n1), .val (.ref n2), .val (.int (0 : Int32)), .val (.int (1 : Int32)), .val zJ27_0, .val zJ28_0, .val (.ref a), .unset, .unset, .unset] [(.int (0 : Int32))]))
          refine Go.of (fun _ q => XS.iload X31.here hx rfl (hb hby at_228) rfl q) ?_
          show Go _ _ _ _ _ _ _ (T31.setTop (mkF m 230 #[.val (.int x1), .val (.int x2), .val (.int x3), .val (.int x4), .val (.int x5), .val (.long x6), .second, .val (.ref b1), .val (.ref s1), .val (.ref b2), .val (.ref s2), .val (.ref b3), .val (.ref s3), .val (.ref n1), .val (.ref n2), .val (.int (0 : Int32)), .val (.int (1 : Int32)), .val zJ27_0, .val zJ28_0, .val (.ref a), .unset, .unset, .unset] [(.int (1 : Int32)), (.int (0 : Int32))]))
          refine Go.of (fun _ q => XS.ifNo X31.here hx rfl (hb hby at_230) rfl ((if0 _ _).trans (feq (by decide)).1) q) ?_
          show Go _ _ _ _ _ _ _ (T31.setTop (mkF m 233 #[.val (.int x1), .val (.int x2), .val (.int x3), .val (.int x4), .val (.int x5), .val (.long x6), .second, .val (.ref b1), .val (.ref s1), .val (.ref b2), .val (.ref s2), .val (.ref b3), .val (.ref s3), .val (.ref n1), .val (.ref n2), .val (.int (0 : Int32)), .val (.int (1 : Int32)), .val zJ27_0, .val zJ28_0, .val (.ref a), .unset, .unset, .unset] [(.int (0 : Int32))]))
          refine Go.of (fun _ q => XS.iconst X31.here hx rfl (hb hby at_233) q) ?_
          show Go _ _ _ _ _ _ _ (T31.setTop (mkF m 234 #[.val (.int x1), .val (.int x2), .val (.int x3), .val (.int x4), .val (.int x5), .val (.long x6), .second, .val (.ref b1), .val (.ref s1), .val (.ref b2), .val (.ref s2), .val (.ref b3), .val (.ref s3), .val (.ref n1), .val (.ref n2), .val (.int (0 : Int32)), .val (.int (1 : Int32)), .val zJ27_0, .val zJ28_0, .val (.ref a), .unset, .unset, .unset] [(.int (1 : Int32)), (.int (0 : Int32))]))
          refine Go.of (fun _ q => XS.goto X31.here hx rfl (pc0 := 234) (pc' := 238) rfl (hb hby at_234) (by decide) (by decide) q) ?_
          show Go _ _ _ _ _ _ _ (T31.setTop (mkF m 238 #[.val (.int x1), .val (.int x2), .val (.int x3), .val (.int x4), .val (.int x5), .val (.long x6), .second, .val (.ref b1), .val (.ref s1), .val (.ref b2), .val (.ref s2), .val (.ref b3), .val (.ref s3), .val (.ref n1), .val (.ref n2), .val (.int (0 : Int32)), .val (.int (1 : Int32)), .val zJ27_0, .val zJ28_0, .val (.ref a), .unset, .unset, .unset] [(.int (1 : Int32)), (.int (0 : Int32))]))
          refine Go.of (fun _ q => XS.iadd X31.here hx rfl (hb hby at_238) rfl q) ?_
          show Go _ _ _ _ _ _ _ (T31.setTop (mkF m 239 #[.val (.int x1), .val (.int x2), .val (.int x3), .val (.int x4), .val (.int x5), .val (.long x6), .second, .val (.ref b1), .val (.ref s1), .val (.ref b2), .val (.ref s2), .val (.ref b3), .val (.ref s3), .val (.ref n1), .val (.ref n2), .val (.int (0 : Int32)), .val (.int (1 : Int32)), .val zJ27_0, .val zJ28_0, .val (.ref a), .unset, .unset, .unset] [(.int (1 : Int32))]))
          refine Go.of (fun _ q => XS.istore X31.here hx rfl (hb hby at_239) rfl (l' := #[.val (.int x1), .val (.int x2), .val (.int x3), .val (.int x4), .val (.int x5), .val (.long x6), .second, .val (.ref b1), .val (.ref s1), .val (.ref b2), .val (.ref s2), .val (.ref b3), .val (.ref s3), .val (.ref n1), .val (.ref n2), .val (.int (0 : Int32)), .val (.int (1 : Int32)), .val zJ27_0, .val zJ28_0, .val (.ref a), .val (.int (1 : Int32)), .unset, .unset]) rfl q) ?_
          show Go _ _ _ _ _ _ _ (T31.setTop (mkF m 241 #[.val (.int x1), .val (.int x2), .val (.int x3), .val (.int x4), .val (.int x5), .val (.long x6), .second, .val (.ref b1), .val (.ref s1), .val (.ref b2), .val (.ref s2), .val (.ref b3), .val (.ref s3), .val (.ref n1), .val (.ref n2), .val (.int (0 : Int32)), .val (.int (1 : Int32)), .val zJ27_0, .val zJ28_0, .val (.ref a), .val (.int (1 : Int32)), .unset, .unset] []))
          refine Go.of (fun _ q => XS.iload X31.here hx rfl (hb hby at_241) rfl q) ?_
          show Go _ _ _ _ _ _ _ (T31.setTop (mkF m 243 #[.val (.int x1), .val (.int x2), .val (.int x3), .val (.int x4), .val (.int x5), .val (.long x6), .second, .val (.ref b1), .val (.ref s1), .val (.ref b2), .val (.ref s2), .val (.ref b3), .val (.ref s3), .val (.ref n1), .val (.ref n2), .val (.int (0 : Int32)), .val (.int (1 : Int32)), .val zJ27_0, .val zJ28_0, .val (.ref a), .val (.int (1 : Int32)), .unset, .unset] [(.int (1 : Int32))]))
          refine Go.of (fun _ q => XS.ifNo X31.here hx rfl (hb hby at_243) rfl ((if0 _ _).trans (feq (by decide)).1) q) ?_
          show Go _ _ _ _ _ _ _ (T31.setTop (mkF m 246 #[.val (.int x1), .val (.int x2), .val (.int x3), .val (.int x4), .val (.int x5), .val (.long x6), .second, .val (.ref b1), .val (.ref s1), .val (.ref b2), .val (.ref s2), .val (.ref b3), .val (.ref s3), .val (.ref n1), .val (.ref n2), .val (.int (0 : Int32)), .val (.int (1 : Int32)), .val zJ27_0, .val zJ28_0, .val (.ref a), .val (.int (1 : Int32)), .unset, .unset] []))
          refine Go.of (fun _ q => XS.aload X31.here hx rfl (hb hby at_246) rfl rzJ27_0 q) ?_
          show Go _ _ _ _ _ _ _ (T31.setTop (mkF m 248 #[.val (.int x1), .val (.int x2), .val (.int x3), .val (.int x4), .val (.int x5), .val (.long x6), .second, .val (.ref b1), .val (.ref s1), .val (.ref b2), .val (.ref s2), .val (.ref b3), .val (.ref s3), .val (.ref n1), .val (.ref n2), .val (.int (0 : Int32)), .val (.int (1 : Int32)), .val zJ27_0, .val zJ28_0, .val (.ref a), .val (.int (1 : Int32)), .unset, .unset] [zJ27_0]))
          refine Go.of (fun _ q => XS.goto X31.here hx rfl (pc0 := 248) (pc' := 262) rfl (hb hby at_248) (by decide) (by decide) q) ?_
          show Go _ _ _ _ _ _ _ (T31.setTop (mkF m 262 #[.val (.int x1), .val (.int x2), .val (.int x3), .val (.int x4), .val (.int x5), .val (.long x6), .second, .val (.ref b1), .val (.ref s1), .val (.ref b2), .val (.ref s2), .val (.ref b3), .val (.ref s3), .val (.ref n1), .val (.ref n2), .val (.int (0 : Int32)), .val (.int (1 : Int32)), .val zJ27_0, .val zJ28_0, .val (.ref a), .val (.int (1 : Int32)), .unset, .unset] [zJ27_0]))
          refine Go.of (fun _ q => XS.astore X31.here hx rfl (hb hby at_262) rfl rzJ27_0 (l' := #[.val (.int x1), .val (.int x2), .val (.int x3), .val (.int x4), .val (.int x5), .val (.long x6), .second, .val (.ref b1), .val (.ref s1), .val (.ref b2), .val (.ref s2), .val (.ref b3), .val (.ref s3), .val (.ref n1), .val (.ref n2), .val (.int (0 : Int32)), .val (.int (1 : Int32)), .val zJ27_0, .val zJ28_0, .val (.ref a), .val (.int (1 : Int32)), .val zJ27_0, .unset]) (by first | rfl | (cases zJ27_0 <;> first | rfl | (simp [Value.isRef] at rzJ27_0; done))) q) ?_
          show Go _ _ _ _ _ _ _ (T31.setTop (mkF m 264 #[.val (.int x1), .val (.int x2), .val (.int x3), .val (.int x4), .val (.int x5), .val (.long x6), .second, .val (.ref b1), .val (.ref s1), .val (.ref b2), .val (.ref s2), .val (.ref b3), .val (.ref s3), .val (.ref n1), .val (.ref n2), .val (.int (0 : Int32)), .val (.int (1 : Int32)), .val zJ27_0, .val zJ28_0, .val (.ref a), .val (.int (1 : Int32)), .val zJ27_0, .unset] []))
          refine Go.of (fun _ q => XS.iload X31.here hx rfl (hb hby at_264) rfl q) ?_
          show Go _ _ _ _ _ _ _ (T31.setTop (mkF m 266 #[.val (.int x1), .val (.int x2), .val (.int x3), .val (.int x4), .val (.int x5), .val (.long x6), .second, .val (.ref b1), .val (.ref s1), .val (.ref b2), .val (.ref s2), .val (.ref b3), .val (.ref s3), .val (.ref n1), .val (.ref n2), .val (.int (0 : Int32)), .val (.int (1 : Int32)), .val zJ27_0, .val zJ28_0, .val (.ref a), .val (.int (1 : Int32)), .val zJ27_0, .unset] [(.int (1 : Int32))]))
          refine Go.of (fun _ q => XS.ifNo X31.here hx rfl (hb hby at_266) rfl ((if0 _ _).trans (feq (by decide)).1) q) ?_
          show Go _ _ _ _ _ _ _ (T31.setTop (mkF m 269 #[.val (.int x1), .val (.int x2), .val (.int x3), .val (.int x4), .val (.int x5), .val (.long x6), .second, .val (.ref b1), .val (.ref s1), .val (.ref b2), .val (.ref s2), .val (.ref b3), .val (.ref s3), .val (.ref n1), .val (.ref n2), .val (.int (0 : Int32)), .val (.int (1 : Int32)), .val zJ27_0, .val zJ28_0, .val (.ref a), .val (.int (1 : Int32)), .val zJ27_0, .unset] []))
          refine Go.of (fun _ q => XS.aload X31.here hx rfl (hb hby at_269) rfl rzJ28_0 q) ?_
          show Go _ _ _ _ _ _ _ (T31.setTop (mkF m 271 #[.val (.int x1), .val (.int x2), .val (.int x3), .val (.int x4), .val (.int x5), .val (.long x6), .second, .val (.ref b1), .val (.ref s1), .val (.ref b2), .val (.ref s2), .val (.ref b3), .val (.ref s3), .val (.ref n1), .val (.ref n2), .val (.int (0 : Int32)), .val (.int (1 : Int32)), .val zJ27_0, .val zJ28_0, .val (.ref a), .val (.int (1 : Int32)), .val zJ27_0, .unset] [zJ28_0]))
          refine Go.of (fun _ q => XS.goto X31.here hx rfl (pc0 := 271) (pc' := 285) rfl (hb hby at_271) (by decide) (by decide) q) ?_
          show Go _ _ _ _ _ _ _ (T31.setTop (mkF m 285 #[.val (.int x1), .val (.int x2), .val (.int x3), .val (.int x4), .val (.int x5), .val (.long x6), .second, .val (.ref b1), .val (.ref s1), .val (.ref b2), .val (.ref s2), .val (.ref b3), .val (.ref s3), .val (.ref n1), .val (.ref n2), .val (.int (0 : Int32)), .val (.int (1 : Int32)), .val zJ27_0, .val zJ28_0, .val (.ref a), .val (.int (1 : Int32)), .val zJ27_0, .unset] [zJ28_0]))
          refine Go.of (fun _ q => XS.astore X31.here hx rfl (hb hby at_285) rfl rzJ28_0 (l' := #[.val (.int x1), .val (.int x2), .val (.int x3), .val (.int x4), .val (.int x5), .val (.long x6), .second, .val (.ref b1), .val (.ref s1), .val (.ref b2), .val (.ref s2), .val (.ref b3), .val (.ref s3), .val (.ref n1), .val (.ref n2), .val (.int (0 : Int32)), .val (.int (1 : Int32)), .val zJ27_0, .val zJ28_0, .val (.ref a), .val (.int (1 : Int32)), .val zJ27_0, .val zJ28_0]) (by first | rfl | (cases zJ28_0 <;> first | rfl | (simp [Value.isRef] at rzJ28_0; done))) q) ?_
          show Go _ _ _ _ _ _ _ (T31.setTop (mkF m 287 #[.val (.int x1), .val (.int x2), .val (.int x3), .val (.int x4), .val (.int x5), .val (.long x6), .second, .val (.ref b1), .val (.ref s1), .val (.ref b2), .val (.ref s2), .val (.ref b3), .val (.ref s3), .val (.ref n1), .val (.ref n2), .val (.int (0 : Int32)), .val (.int (1 : Int32)), .val zJ27_0, .val zJ28_0, .val (.ref a), .val (.int (1 : Int32)), .val zJ27_0, .val zJ28_0] []))
          refine Go.of (fun _ q => XS.aload X31.here hx rfl (hb hby at_287) rfl rfl q) ?_
          show Go _ _ _ _ _ _ _ (T31.setTop (mkF m 289 #[.val (.int x1), .val (.int x2), .val (.int x3), .val (.int x4), .val (.int x5), .val (.long x6), .second, .val (.ref b1), .val (.ref s1), .val (.ref b2), .val (.ref s2), .val (.ref b3), .val (.ref s3), .val (.ref n1), .val (.ref n2), .val (.int (0 : Int32)), .val (.int (1 : Int32)), .val zJ27_0, .val zJ28_0, .val (.ref a), .val (.int (1 : Int32)), .val zJ27_0, .val zJ28_0] [(.ref a)]))
          refine Go.virtual X31 hx hZ (y := (⟨"com/example/lane/lane/AccessRecord", "attempts", "()I"⟩ : MethodName)) (z := (⟨"com/example/lane/lane/AccessRecord", "attempts", "()I"⟩ : MethodName)) (a := a) (argsL := []) hown (hw _ (List.mem_of_getElem? (i := 57) rfl)) (hw _ (List.mem_of_getElem? (i := 58) rfl)) (notFace_of_selects (args := #[]) (mvT hZ (hw _ (List.mem_of_getElem? (i := 60) rfl)))) (hw _ (List.mem_of_getElem? (i := 60) rfl)) (hw _ (List.mem_of_getElem? (i := 59) rfl)) (hw _ (List.mem_of_getElem? (i := 48) rfl)) (hw _ (List.mem_of_getElem? (i := 61) rfl)) (by decide) 0 rfl E_a (rm10 l Z a0 hw a ((0 : Int32) + (1 : Int32)) T31.heap n0 Zs F_a_attempts) (by decide) (by decide) (by decide) (by decide) (g := (mkF m 289 #[.val (.int x1), .val (.int x2), .val (.int x3), .val (.int x4), .val (.int x5), .val (.long x6), .second, .val (.ref b1), .val (.ref s1), .val (.ref b2), .val (.ref s2), .val (.ref b3), .val (.ref s3), .val (.ref n1), .val (.ref n2), .val (.int (0 : Int32)), .val (.int (1 : Int32)), .val zJ27_0, .val zJ28_0, .val (.ref a), .val (.int (1 : Int32)), .val zJ27_0, .val zJ28_0] [(.ref a)])) rfl (by rw [hml]; rfl) (rest := []) (lenOf pd8 rfl) rfl (by show 2 * 0 + _ ≤ _; exact Nat.le_of_eq rfl) (hb hby at_289) ?_
          intro T32 v32 L32 X32 q32
          obtain ⟨rfl, Nq32, e32⟩ := q32
          have N32 := Fr.app N31 Nq32
          show Go _ _ _ _ _ _ _ (T32.setTop (mkF m 292 #[.val (.int x1), .val (.int x2), .val (.int x3), .val (.int x4), .val (.int x5), .val (.long x6), .second, .val (.ref b1), .val (.ref s1), .val (.ref b2), .val (.ref s2), .val (.ref b3), .val (.ref s3), .val (.ref n1), .val (.ref n2), .val (.int (0 : Int32)), .val (.int (1 : Int32)), .val zJ27_0, .val zJ28_0, .val (.ref a), .val (.int (1 : Int32)), .val zJ27_0, .val zJ28_0] [(.int ((0 : Int32) + (1 : Int32)))]))
          refine Go.of (fun _ q => XS.iload X32.here hx rfl (hb hby at_292) rfl q) ?_
          show Go _ _ _ _ _ _ _ (T32.setTop (mkF m 294 #[.val (.int x1), .val (.int x2), .val (.int x3), .val (.int x4), .val (.int x5), .val (.long x6), .second, .val (.ref b1), .val (.ref s1), .val (.ref b2), .val (.ref s2), .val (.ref b3), .val (.ref s3), .val (.ref n1), .val (.ref n2), .val (.int (0 : Int32)), .val (.int (1 : Int32)), .val zJ27_0, .val zJ28_0, .val (.ref a), .val (.int (1 : Int32)), .val zJ27_0, .val zJ28_0] [(.int (1 : Int32)), (.int ((0 : Int32) + (1 : Int32)))]))
          have J37 : ∀ (TJ37 : State) (lJ37 : List Loc) (zJ37_0 : Int32), Stand p l e room_1 s m #[(.int x1), (.int x2), (.int x3), (.int x4), (.int x5), (.long x6)] below meth c TJ37 lJ37 12 42 → TJ37.heap = T31.heap → Fr n0 lJ37 → zJ37_0 = (if ((0 : Int32) + (1 : Int32)) = (1 : Int32) then (1 : Int32) else (0 : Int32)) → Go p e below s room_1.cells room_1.slots (Q0 Z x1 x2 x3 x4 x5 x6 cs h0 n0) (TJ37.setTop (mkF m 341 #[.val (.int x1), .val (.int x2), .val (.int x3), .val (.int x4), .val (.int x5), .val (.long x6), .second, .val (.ref b1), .val (.ref s1), .val (.ref b2), .val (.ref s2), .val (.ref b3), .val (.ref s3), .val (.ref n1), .val (.ref n2), .val (.int (0 : Int32)), .val (.int (1 : Int32)), .val zJ27_0, .val zJ28_0, .val (.ref a), .val (.int (1 : Int32)), .val zJ27_0, .val zJ28_0] [(.int zJ37_0)])) := by
            intro TJ37 lJ37 zJ37_0 XJ37 eJ37 NJ37 hzJ37_0
            subst hzJ37_0
            show Go _ _ _ _ _ _ _ (TJ37.setTop (mkF m 341 #[.val (.int x1), .val (.int x2), .val (.int x3), .val (.int x4), .val (.int x5), .val (.long x6), .second, .val (.ref b1), .val (.ref s1), .val (.ref b2), .val (.ref s2), .val (.ref b3), .val (.ref s3), .val (.ref n1), .val (.ref n2), .val (.int (0 : Int32)), .val (.int (1 : Int32)), .val zJ27_0, .val zJ28_0, .val (.ref a), .val (.int (1 : Int32)), .val zJ27_0, .val zJ28_0] [(.int (if ((0 : Int32) + (1 : Int32)) = (1 : Int32) then (1 : Int32) else (0 : Int32)))]))
            refine Go.retN XJ37 hx hlk (t := .boolean) hret (by simp) (hb hby at_341) (by first | rfl | (split <;> rfl) | (repeat' split) <;> rfl) (by decide) (by decide) ?_
            rw [eJ37]
            exact ⟨rfl, NJ37⟩
          by_cases c294 : ((0 : Int32) + (1 : Int32)) = (1 : Int32)
          · refine Go.of (fun _ q => XS.icmpNo X32.here hx rfl (hb hby at_294) rfl (teq c294).2 q) ?_
            show Go _ _ _ _ _ _ _ (T32.setTop (mkF m 297 #[.val (.int x1), .val (.int x2), .val (.int x3), .val (.int x4), .val (.int x5), .val (.long x6), .second, .val (.ref b1), .val (.ref s1), .val (.ref b2), .val (.ref s2), .val (.ref b3), .val (.ref s3), .val (.ref n1), .val (.ref n2), .val (.int (0 : Int32)), .val (.int (1 : Int32)), .val zJ27_0, .val zJ28_0, .val (.ref a), .val (.int (1 : Int32)), .val zJ27_0, .val zJ28_0] []))
            refine Go.of (fun _ q => XS.aload X32.here hx rfl (hb hby at_297) rfl rfl q) ?_
            show Go _ _ _ _ _ _ _ (T32.setTop (mkF m 299 #[.val (.int x1), .val (.int x2), .val (.int x3), .val (.int x4), .val (.int x5), .val (.long x6), .second, .val (.ref b1), .val (.ref s1), .val (.ref b2), .val (.ref s2), .val (.ref b3), .val (.ref s3), .val (.ref n1), .val (.ref n2), .val (.int (0 : Int32)), .val (.int (1 : Int32)), .val zJ27_0, .val zJ28_0, .val (.ref a), .val (.int (1 : Int32)), .val zJ27_0, .val zJ28_0] [(.ref a)]))
            refine Go.virtual X32 hx hZ (y := (⟨"com/example/lane/lane/AccessRecord", "upstream", "()Ljava/lang/String;"⟩ : MethodName)) (z := (⟨"com/example/lane/lane/AccessRecord", "upstream", "()Ljava/lang/String;"⟩ : MethodName)) (a := a) (argsL := []) hown (hw _ (List.mem_of_getElem? (i := 64) rfl)) (hw _ (List.mem_of_getElem? (i := 65) rfl)) (notFace_of_selects (args := #[]) (mvT hZ (hw _ (List.mem_of_getElem? (i := 67) rfl)))) (hw _ (List.mem_of_getElem? (i := 67) rfl)) (hw _ (List.mem_of_getElem? (i := 66) rfl)) (hw _ (List.mem_of_getElem? (i := 48) rfl)) (hw _ (List.mem_of_getElem? (i := 68) rfl)) (by decide) 0 e32 E_a (rm11 l Z a0 hw a zJ27_0 rzJ27_0 T31.heap n0 Zs F_a_upstream) (by decide) (by decide) (by decide) (by decide) (g := (mkF m 299 #[.val (.int x1), .val (.int x2), .val (.int x3), .val (.int x4), .val (.int x5), .val (.long x6), .second, .val (.ref b1), .val (.ref s1), .val (.ref b2), .val (.ref s2), .val (.ref b3), .val (.ref s3), .val (.ref n1), .val (.ref n2), .val (.int (0 : Int32)), .val (.int (1 : Int32)), .val zJ27_0, .val zJ28_0, .val (.ref a), .val (.int (1 : Int32)), .val zJ27_0, .val zJ28_0] [(.ref a)])) rfl (by rw [hml]; rfl) (rest := []) (lenOf pd9 rfl) rfl (by show 2 * 0 + _ ≤ _; exact Nat.le_of_eq rfl) (hb hby at_299) ?_
            intro T33 v33 L33 X33 q33
            obtain ⟨rfl, Nq33, e33⟩ := q33
            have N33 := Fr.app N32 Nq33
            show Go _ _ _ _ _ _ _ (T33.setTop (mkF m 302 #[.val (.int x1), .val (.int x2), .val (.int x3), .val (.int x4), .val (.int x5), .val (.long x6), .second, .val (.ref b1), .val (.ref s1), .val (.ref b2), .val (.ref s2), .val (.ref b3), .val (.ref s3), .val (.ref n1), .val (.ref n2), .val (.int (0 : Int32)), .val (.int (1 : Int32)), .val zJ27_0, .val zJ28_0, .val (.ref a), .val (.int (1 : Int32)), .val zJ27_0, .val zJ28_0] [zJ27_0]))
            refine Go.of (fun _ q => XS.aload X33.here hx rfl (hb hby at_302) rfl rzJ27_0 q) ?_
            show Go _ _ _ _ _ _ _ (T33.setTop (mkF m 304 #[.val (.int x1), .val (.int x2), .val (.int x3), .val (.int x4), .val (.int x5), .val (.long x6), .second, .val (.ref b1), .val (.ref s1), .val (.ref b2), .val (.ref s2), .val (.ref b3), .val (.ref s3), .val (.ref n1), .val (.ref n2), .val (.int (0 : Int32)), .val (.int (1 : Int32)), .val zJ27_0, .val zJ28_0, .val (.ref a), .val (.int (1 : Int32)), .val zJ27_0, .val zJ28_0] [zJ27_0, zJ27_0]))
            refine Go.of (fun _ q => Jvm.RoadKit.acmp (g := (mkF m 304 #[.val (.int x1), .val (.int x2), .val (.int x3), .val (.int x4), .val (.int x5), .val (.long x6), .second, .val (.ref b1), .val (.ref s1), .val (.ref b2), .val (.ref s2), .val (.ref b3), .val (.ref s3), .val (.ref n1), .val (.ref n2), .val (.int (0 : Int32)), .val (.int (1 : Int32)), .val zJ27_0, .val zJ28_0, .val (.ref a), .val (.int (1 : Int32)), .val zJ27_0, .val zJ28_0] [zJ27_0, zJ27_0])) X33 hx rfl rzJ27_0 rzJ27_0 (pc0 := 304) (pc' := 307) (same := true) rfl (hb hby at_304) rfl (decide_eq_true rfl) (by decide) (by decide) q) ?_
            show Go _ _ _ _ _ _ _ (T33.setTop (mkF m 307 #[.val (.int x1), .val (.int x2), .val (.int x3), .val (.int x4), .val (.int x5), .val (.long x6), .second, .val (.ref b1), .val (.ref s1), .val (.ref b2), .val (.ref s2), .val (.ref b3), .val (.ref s3), .val (.ref n1), .val (.ref n2), .val (.int (0 : Int32)), .val (.int (1 : Int32)), .val zJ27_0, .val zJ28_0, .val (.ref a), .val (.int (1 : Int32)), .val zJ27_0, .val zJ28_0] []))
            refine Go.of (fun _ q => XS.aload X33.here hx rfl (hb hby at_307) rfl rfl q) ?_
            show Go _ _ _ _ _ _ _ (T33.setTop (mkF m 309 #[.val (.int x1), .val (.int x2), .val (.int x3), .val (.int x4), .val (.int x5), .val (.long x6), .second, .val (.ref b1), .val (.ref s1), .val (.ref b2), .val (.ref s2), .val (.ref b3), .val (.ref s3), .val (.ref n1), .val (.ref n2), .val (.int (0 : Int32)), .val (.int (1 : Int32)), .val zJ27_0, .val zJ28_0, .val (.ref a), .val (.int (1 : Int32)), .val zJ27_0, .val zJ28_0] [(.ref a)]))
            refine Go.virtual X33 hx hZ (y := (⟨"com/example/lane/lane/AccessRecord", "node", "()Lcom/example/lane/lane/config/HostPort;"⟩ : MethodName)) (z := (⟨"com/example/lane/lane/AccessRecord", "node", "()Lcom/example/lane/lane/config/HostPort;"⟩ : MethodName)) (a := a) (argsL := []) hown (hw _ (List.mem_of_getElem? (i := 71) rfl)) (hw _ (List.mem_of_getElem? (i := 72) rfl)) (notFace_of_selects (args := #[]) (mvT hZ (hw _ (List.mem_of_getElem? (i := 74) rfl)))) (hw _ (List.mem_of_getElem? (i := 74) rfl)) (hw _ (List.mem_of_getElem? (i := 73) rfl)) (hw _ (List.mem_of_getElem? (i := 48) rfl)) (hw _ (List.mem_of_getElem? (i := 75) rfl)) (by decide) 0 e33 E_a (rm12 l Z a0 hw a zJ28_0 rzJ28_0 T31.heap n0 Zs F_a_node) (by decide) (by decide) (by decide) (by decide) (g := (mkF m 309 #[.val (.int x1), .val (.int x2), .val (.int x3), .val (.int x4), .val (.int x5), .val (.long x6), .second, .val (.ref b1), .val (.ref s1), .val (.ref b2), .val (.ref s2), .val (.ref b3), .val (.ref s3), .val (.ref n1), .val (.ref n2), .val (.int (0 : Int32)), .val (.int (1 : Int32)), .val zJ27_0, .val zJ28_0, .val (.ref a), .val (.int (1 : Int32)), .val zJ27_0, .val zJ28_0] [(.ref a)])) rfl (by rw [hml]; rfl) (rest := []) (lenOf pd10 rfl) rfl (by show 2 * 0 + _ ≤ _; exact Nat.le_of_eq rfl) (hb hby at_309) ?_
            intro T34 v34 L34 X34 q34
            obtain ⟨rfl, Nq34, e34⟩ := q34
            have N34 := Fr.app N33 Nq34
            show Go _ _ _ _ _ _ _ (T34.setTop (mkF m 312 #[.val (.int x1), .val (.int x2), .val (.int x3), .val (.int x4), .val (.int x5), .val (.long x6), .second, .val (.ref b1), .val (.ref s1), .val (.ref b2), .val (.ref s2), .val (.ref b3), .val (.ref s3), .val (.ref n1), .val (.ref n2), .val (.int (0 : Int32)), .val (.int (1 : Int32)), .val zJ27_0, .val zJ28_0, .val (.ref a), .val (.int (1 : Int32)), .val zJ27_0, .val zJ28_0] [zJ28_0]))
            refine Go.of (fun _ q => XS.aload X34.here hx rfl (hb hby at_312) rfl rzJ28_0 q) ?_
            show Go _ _ _ _ _ _ _ (T34.setTop (mkF m 314 #[.val (.int x1), .val (.int x2), .val (.int x3), .val (.int x4), .val (.int x5), .val (.long x6), .second, .val (.ref b1), .val (.ref s1), .val (.ref b2), .val (.ref s2), .val (.ref b3), .val (.ref s3), .val (.ref n1), .val (.ref n2), .val (.int (0 : Int32)), .val (.int (1 : Int32)), .val zJ27_0, .val zJ28_0, .val (.ref a), .val (.int (1 : Int32)), .val zJ27_0, .val zJ28_0] [zJ28_0, zJ28_0]))
            refine Go.of (fun _ q => Jvm.RoadKit.acmp (g := (mkF m 314 #[.val (.int x1), .val (.int x2), .val (.int x3), .val (.int x4), .val (.int x5), .val (.long x6), .second, .val (.ref b1), .val (.ref s1), .val (.ref b2), .val (.ref s2), .val (.ref b3), .val (.ref s3), .val (.ref n1), .val (.ref n2), .val (.int (0 : Int32)), .val (.int (1 : Int32)), .val zJ27_0, .val zJ28_0, .val (.ref a), .val (.int (1 : Int32)), .val zJ27_0, .val zJ28_0] [zJ28_0, zJ28_0])) X34 hx rfl rzJ28_0 rzJ28_0 (pc0 := 314) (pc' := 317) (same := true) rfl (hb hby at_314) rfl (decide_eq_true rfl) (by decide) (by decide) q) ?_
            show Go _ _ _ _ _ _ _ (T34.setTop (mkF m 317 #[.val (.int x1), .val (.int x2), .val (.int x3), .val (.int x4), .val (.int x5), .val (.long x6), .second, .val (.ref b1), .val (.ref s1), .val (.ref b2), .val (.ref s2), .val (.ref b3), .val (.ref s3), .val (.ref n1), .val (.ref n2), .val (.int (0 : Int32)), .val (.int (1 : Int32)), .val zJ27_0, .val zJ28_0, .val (.ref a), .val (.int (1 : Int32)), .val zJ27_0, .val zJ28_0] []))
            refine Go.of (fun _ q => XS.aload X34.here hx rfl (hb hby at_317) rfl rfl q) ?_
            show Go _ _ _ _ _ _ _ (T34.setTop (mkF m 319 #[.val (.int x1), .val (.int x2), .val (.int x3), .val (.int x4), .val (.int x5), .val (.long x6), .second, .val (.ref b1), .val (.ref s1), .val (.ref b2), .val (.ref s2), .val (.ref b3), .val (.ref s3), .val (.ref n1), .val (.ref n2), .val (.int (0 : Int32)), .val (.int (1 : Int32)), .val zJ27_0, .val zJ28_0, .val (.ref a), .val (.int (1 : Int32)), .val zJ27_0, .val zJ28_0] [(.ref a)]))
            refine Go.virtual X34 hx hZ (y := (⟨"com/example/lane/lane/AccessRecord", "status", "()I"⟩ : MethodName)) (z := (⟨"com/example/lane/lane/AccessRecord", "status", "()I"⟩ : MethodName)) (a := a) (argsL := []) hown (hw _ (List.mem_of_getElem? (i := 78) rfl)) (hw _ (List.mem_of_getElem? (i := 79) rfl)) (notFace_of_selects (args := #[]) (mvT hZ (hw _ (List.mem_of_getElem? (i := 81) rfl)))) (hw _ (List.mem_of_getElem? (i := 81) rfl)) (hw _ (List.mem_of_getElem? (i := 80) rfl)) (hw _ (List.mem_of_getElem? (i := 48) rfl)) (hw _ (List.mem_of_getElem? (i := 82) rfl)) (by decide) 0 e34 E_a (rm13 l Z a0 hw a T31.heap n0 Zs F_a_status) (by decide) (by decide) (by decide) (by decide) (g := (mkF m 319 #[.val (.int x1), .val (.int x2), .val (.int x3), .val (.int x4), .val (.int x5), .val (.long x6), .second, .val (.ref b1), .val (.ref s1), .val (.ref b2), .val (.ref s2), .val (.ref b3), .val (.ref s3), .val (.ref n1), .val (.ref n2), .val (.int (0 : Int32)), .val (.int (1 : Int32)), .val zJ27_0, .val zJ28_0, .val (.ref a), .val (.int (1 : Int32)), .val zJ27_0, .val zJ28_0] [(.ref a)])) rfl (by rw [hml]; rfl) (rest := []) (lenOf pd8 rfl) rfl (by show 2 * 0 + _ ≤ _; exact Nat.le_of_eq rfl) (hb hby at_319) ?_
            intro T35 v35 L35 X35 q35
            obtain ⟨rfl, Nq35, e35⟩ := q35
            have N35 := Fr.app N34 Nq35
            show Go _ _ _ _ _ _ _ (T35.setTop (mkF m 322 #[.val (.int x1), .val (.int x2), .val (.int x3), .val (.int x4), .val (.int x5), .val (.long x6), .second, .val (.ref b1), .val (.ref s1), .val (.ref b2), .val (.ref s2), .val (.ref b3), .val (.ref s3), .val (.ref n1), .val (.ref n2), .val (.int (0 : Int32)), .val (.int (1 : Int32)), .val zJ27_0, .val zJ28_0, .val (.ref a), .val (.int (1 : Int32)), .val zJ27_0, .val zJ28_0] [(.int (499 : Int32))]))
            refine Go.of (fun _ q => XS.sipush X35.here hx rfl (hb hby at_322) q) ?_
            show Go _ _ _ _ _ _ _ (T35.setTop (mkF m 325 #[.val (.int x1), .val (.int x2), .val (.int x3), .val (.int x4), .val (.int x5), .val (.long x6), .second, .val (.ref b1), .val (.ref s1), .val (.ref b2), .val (.ref s2), .val (.ref b3), .val (.ref s3), .val (.ref n1), .val (.ref n2), .val (.int (0 : Int32)), .val (.int (1 : Int32)), .val zJ27_0, .val zJ28_0, .val (.ref a), .val (.int (1 : Int32)), .val zJ27_0, .val zJ28_0] [(.int (499 : Int32)), (.int (499 : Int32))]))
            refine Go.of (fun _ q => XS.icmpNo X35.here hx rfl (hb hby at_325) rfl (teq rfl).2 q) ?_
            show Go _ _ _ _ _ _ _ (T35.setTop (mkF m 328 #[.val (.int x1), .val (.int x2), .val (.int x3), .val (.int x4), .val (.int x5), .val (.long x6), .second, .val (.ref b1), .val (.ref s1), .val (.ref b2), .val (.ref s2), .val (.ref b3), .val (.ref s3), .val (.ref n1), .val (.ref n2), .val (.int (0 : Int32)), .val (.int (1 : Int32)), .val zJ27_0, .val zJ28_0, .val (.ref a), .val (.int (1 : Int32)), .val zJ27_0, .val zJ28_0] []))
            refine Go.of (fun _ q => XS.aload X35.here hx rfl (hb hby at_328) rfl rfl q) ?_
            show Go _ _ _ _ _ _ _ (T35.setTop (mkF m 330 #[.val (.int x1), .val (.int x2), .val (.int x3), .val (.int x4), .val (.int x5), .val (.long x6), .second, .val (.ref b1), .val (.ref s1), .val (.ref b2), .val (.ref s2), .val (.ref b3), .val (.ref s3), .val (.ref n1), .val (.ref n2), .val (.int (0 : Int32)), .val (.int (1 : Int32)), .val zJ27_0, .val zJ28_0, .val (.ref a), .val (.int (1 : Int32)), .val zJ27_0, .val zJ28_0] [(.ref a)]))
            refine Go.virtual X35 hx hZ (y := (⟨"com/example/lane/lane/AccessRecord", "route", "()Ljava/lang/String;"⟩ : MethodName)) (z := (⟨"com/example/lane/lane/AccessRecord", "route", "()Ljava/lang/String;"⟩ : MethodName)) (a := a) (argsL := []) hown (hw _ (List.mem_of_getElem? (i := 85) rfl)) (hw _ (List.mem_of_getElem? (i := 86) rfl)) (notFace_of_selects (args := #[]) (mvT hZ (hw _ (List.mem_of_getElem? (i := 88) rfl)))) (hw _ (List.mem_of_getElem? (i := 88) rfl)) (hw _ (List.mem_of_getElem? (i := 87) rfl)) (hw _ (List.mem_of_getElem? (i := 48) rfl)) (hw _ (List.mem_of_getElem? (i := 89) rfl)) (by decide) 0 e35 E_a (rm14 l Z a0 hw a T31.heap n0 Zs F_a_route) (by decide) (by decide) (by decide) (by decide) (g := (mkF m 330 #[.val (.int x1), .val (.int x2), .val (.int x3), .val (.int x4), .val (.int x5), .val (.long x6), .second, .val (.ref b1), .val (.ref s1), .val (.ref b2), .val (.ref s2), .val (.ref b3), .val (.ref s3), .val (.ref n1), .val (.ref n2), .val (.int (0 : Int32)), .val (.int (1 : Int32)), .val zJ27_0, .val zJ28_0, .val (.ref a), .val (.int (1 : Int32)), .val zJ27_0, .val zJ28_0] [(.ref a)])) rfl (by rw [hml]; rfl) (rest := []) (lenOf pd9 rfl) rfl (by show 2 * 0 + _ ≤ _; exact Nat.le_of_eq rfl) (hb hby at_330) ?_
            intro T36 v36 L36 X36 q36
            obtain ⟨rfl, Nq36, e36⟩ := q36
            have N36 := Fr.app N35 Nq36
            show Go _ _ _ _ _ _ _ (T36.setTop (mkF m 333 #[.val (.int x1), .val (.int x2), .val (.int x3), .val (.int x4), .val (.int x5), .val (.long x6), .second, .val (.ref b1), .val (.ref s1), .val (.ref b2), .val (.ref s2), .val (.ref b3), .val (.ref s3), .val (.ref n1), .val (.ref n2), .val (.int (0 : Int32)), .val (.int (1 : Int32)), .val zJ27_0, .val zJ28_0, .val (.ref a), .val (.int (1 : Int32)), .val zJ27_0, .val zJ28_0] [.null]))
            refine Go.of (fun _ q => XS.ifnonnullNo X36.here hx rfl (hb hby at_333) rfl q) ?_
            show Go _ _ _ _ _ _ _ (T36.setTop (mkF m 336 #[.val (.int x1), .val (.int x2), .val (.int x3), .val (.int x4), .val (.int x5), .val (.long x6), .second, .val (.ref b1), .val (.ref s1), .val (.ref b2), .val (.ref s2), .val (.ref b3), .val (.ref s3), .val (.ref n1), .val (.ref n2), .val (.int (0 : Int32)), .val (.int (1 : Int32)), .val zJ27_0, .val zJ28_0, .val (.ref a), .val (.int (1 : Int32)), .val zJ27_0, .val zJ28_0] []))
            refine Go.of (fun _ q => XS.iconst X36.here hx rfl (hb hby at_336) q) ?_
            show Go _ _ _ _ _ _ _ (T36.setTop (mkF m 337 #[.val (.int x1), .val (.int x2), .val (.int x3), .val (.int x4), .val (.int x5), .val (.long x6), .second, .val (.ref b1), .val (.ref s1), .val (.ref b2), .val (.ref s2), .val (.ref b3), .val (.ref s3), .val (.ref n1), .val (.ref n2), .val (.int (0 : Int32)), .val (.int (1 : Int32)), .val zJ27_0, .val zJ28_0, .val (.ref a), .val (.int (1 : Int32)), .val zJ27_0, .val zJ28_0] [(.int (1 : Int32))]))
            refine Go.of (fun _ q => XS.goto X36.here hx rfl (pc0 := 337) (pc' := 341) rfl (hb hby at_337) (by decide) (by decide) q) ?_
            show Go _ _ _ _ _ _ _ (T36.setTop (mkF m 341 #[.val (.int x1), .val (.int x2), .val (.int x3), .val (.int x4), .val (.int x5), .val (.long x6), .second, .val (.ref b1), .val (.ref s1), .val (.ref b2), .val (.ref s2), .val (.ref b3), .val (.ref s3), .val (.ref n1), .val (.ref n2), .val (.int (0 : Int32)), .val (.int (1 : Int32)), .val zJ27_0, .val zJ28_0, .val (.ref a), .val (.int (1 : Int32)), .val zJ27_0, .val zJ28_0] [(.int (1 : Int32))]))
            exact J37 T36 _ _ (pad X36 (by decide) (by decide)) e36 N36 (by rw [if_pos c294])
          · refine Go.of (fun _ q => XS.icmpYes X32.here hx rfl (pc0 := 294) (pc' := 340) rfl (hb hby at_294) rfl (feq c294).2 (by decide) (by decide) q) ?_
            show Go _ _ _ _ _ _ _ (T32.setTop (mkF m 340 #[.val (.int x1), .val (.int x2), .val (.int x3), .val (.int x4), .val (.int x5), .val (.long x6), .second, .val (.ref b1), .val (.ref s1), .val (.ref b2), .val (.ref s2), .val (.ref b3), .val (.ref s3), .val (.ref n1), .val (.ref n2), .val (.int (0 : Int32)), .val (.int (1 : Int32)), .val zJ27_0, .val zJ28_0, .val (.ref a), .val (.int (1 : Int32)), .val zJ27_0, .val zJ28_0] []))
            refine Go.of (fun _ q => XS.iconst X32.here hx rfl (hb hby at_340) q) ?_
            show Go _ _ _ _ _ _ _ (T32.setTop (mkF m 341 #[.val (.int x1), .val (.int x2), .val (.int x3), .val (.int x4), .val (.int x5), .val (.long x6), .second, .val (.ref b1), .val (.ref s1), .val (.ref b2), .val (.ref s2), .val (.ref b3), .val (.ref s3), .val (.ref n1), .val (.ref n2), .val (.int (0 : Int32)), .val (.int (1 : Int32)), .val zJ27_0, .val zJ28_0, .val (.ref a), .val (.int (1 : Int32)), .val zJ27_0, .val zJ28_0] [(.int (0 : Int32))]))
            exact J37 T32 _ _ (pad X32 (by decide) (by decide)) e32 N32 (by rw [if_neg c294])
        by_cases c166 : (x5 &&& (8 : Int32)) = (0 : Int32)
        · refine Go.of (fun _ q => XS.ifYes X17.here hx rfl (pc0 := 166) (pc' := 173) rfl (hb hby at_166) rfl ((if0 _ _).trans (teq c166).1) (by decide) (by decide) q) ?_
          show Go _ _ _ _ _ _ _ (T17.setTop (mkF m 173 #[.val (.int x1), .val (.int x2), .val (.int x3), .val (.int x4), .val (.int x5), .val (.long x6), .second, .val (.ref b1), .val (.ref s1), .val (.ref b2), .val (.ref s2), .val (.ref b3), .val (.ref s3), .val (.ref n1), .val (.ref n2), .val (.int (0 : Int32)), .val (.int (1 : Int32)), .val zJ27_0, .unset, .unset, .unset, .unset, .unset] []))
          refine Go.of (fun _ q => XS.aload X17.here hx rfl (hb hby at_173) rfl rfl q) ?_
          show Go _ _ _ _ _ _ _ (T17.setTop (mkF m 175 #[.val (.int x1), .val (.int x2), .val (.int x3), .val (.int x4), .val (.int x5), .val (.long x6), .second, .val (.ref b1), .val (.ref s1), .val (.ref b2), .val (.ref s2), .val (.ref b3), .val (.ref s3), .val (.ref n1), .val (.ref n2), .val (.int (0 : Int32)), .val (.int (1 : Int32)), .val zJ27_0, .unset, .unset, .unset, .unset, .unset] [(.ref n2)]))
          exact J28 _ (by rw [if_pos c166]) rfl
        · refine Go.of (fun _ q => XS.ifNo X17.here hx rfl (hb hby at_166) rfl ((if0 _ _).trans (feq c166).1) q) ?_
          show Go _ _ _ _ _ _ _ (T17.setTop (mkF m 169 #[.val (.int x1), .val (.int x2), .val (.int x3), .val (.int x4), .val (.int x5), .val (.long x6), .second, .val (.ref b1), .val (.ref s1), .val (.ref b2), .val (.ref s2), .val (.ref b3), .val (.ref s3), .val (.ref n1), .val (.ref n2), .val (.int (0 : Int32)), .val (.int (1 : Int32)), .val zJ27_0, .unset, .unset, .unset, .unset, .unset] []))
          refine Go.of (fun _ q => XS.aconstNull X17.here hx rfl (hb hby at_169) q) ?_
          show Go _ _ _ _ _ _ _ (T17.setTop (mkF m 170 #[.val (.int x1), .val (.int x2), .val (.int x3), .val (.int x4), .val (.int x5), .val (.long x6), .second, .val (.ref b1), .val (.ref s1), .val (.ref b2), .val (.ref s2), .val (.ref b3), .val (.ref s3), .val (.ref n1), .val (.ref n2), .val (.int (0 : Int32)), .val (.int (1 : Int32)), .val zJ27_0, .unset, .unset, .unset, .unset, .unset] [.null]))
          refine Go.of (fun _ q => XS.goto X17.here hx rfl (pc0 := 170) (pc' := 175) rfl (hb hby at_170) (by decide) (by decide) q) ?_
          show Go _ _ _ _ _ _ _ (T17.setTop (mkF m 175 #[.val (.int x1), .val (.int x2), .val (.int x3), .val (.int x4), .val (.int x5), .val (.long x6), .second, .val (.ref b1), .val (.ref s1), .val (.ref b2), .val (.ref s2), .val (.ref b3), .val (.ref s3), .val (.ref n1), .val (.ref n2), .val (.int (0 : Int32)), .val (.int (1 : Int32)), .val zJ27_0, .unset, .unset, .unset, .unset, .unset] [.null]))
          exact J28 _ (by rw [if_neg c166]) rfl
      by_cases c150 : (x5 &&& (4 : Int32)) = (0 : Int32)
      · refine Go.of (fun _ q => XS.ifYes X17.here hx rfl (pc0 := 150) (pc' := 157) rfl (hb hby at_150) rfl ((if0 _ _).trans (teq c150).1) (by decide) (by decide) q) ?_
        show Go _ _ _ _ _ _ _ (T17.setTop (mkF m 157 #[.val (.int x1), .val (.int x2), .val (.int x3), .val (.int x4), .val (.int x5), .val (.long x6), .second, .val (.ref b1), .val (.ref s1), .val (.ref b2), .val (.ref s2), .val (.ref b3), .val (.ref s3), .val (.ref n1), .val (.ref n2), .val (.int (0 : Int32)), .val (.int (1 : Int32)), .unset, .unset, .unset, .unset, .unset, .unset] []))
        refine Go.of (fun _ q => XS.aload X17.here hx rfl (hb hby at_157) rfl rfl q) ?_
        show Go _ _ _ _ _ _ _ (T17.setTop (mkF m 159 #[.val (.int x1), .val (.int x2), .val (.int x3), .val (.int x4), .val (.int x5), .val (.long x6), .second, .val (.ref b1), .val (.ref s1), .val (.ref b2), .val (.ref s2), .val (.ref b3), .val (.ref s3), .val (.ref n1), .val (.ref n2), .val (.int (0 : Int32)), .val (.int (1 : Int32)), .unset, .unset, .unset, .unset, .unset, .unset] [(.ref s2)]))
        exact J27 _ (by rw [if_pos c150]) rfl
      · refine Go.of (fun _ q => XS.ifNo X17.here hx rfl (hb hby at_150) rfl ((if0 _ _).trans (feq c150).1) q) ?_
        show Go _ _ _ _ _ _ _ (T17.setTop (mkF m 153 #[.val (.int x1), .val (.int x2), .val (.int x3), .val (.int x4), .val (.int x5), .val (.long x6), .second, .val (.ref b1), .val (.ref s1), .val (.ref b2), .val (.ref s2), .val (.ref b3), .val (.ref s3), .val (.ref n1), .val (.ref n2), .val (.int (0 : Int32)), .val (.int (1 : Int32)), .unset, .unset, .unset, .unset, .unset, .unset] []))
        refine Go.of (fun _ q => XS.aconstNull X17.here hx rfl (hb hby at_153) q) ?_
        show Go _ _ _ _ _ _ _ (T17.setTop (mkF m 154 #[.val (.int x1), .val (.int x2), .val (.int x3), .val (.int x4), .val (.int x5), .val (.long x6), .second, .val (.ref b1), .val (.ref s1), .val (.ref b2), .val (.ref s2), .val (.ref b3), .val (.ref s3), .val (.ref n1), .val (.ref n2), .val (.int (0 : Int32)), .val (.int (1 : Int32)), .unset, .unset, .unset, .unset, .unset, .unset] [.null]))
        refine Go.of (fun _ q => XS.goto X17.here hx rfl (pc0 := 154) (pc' := 159) rfl (hb hby at_154) (by decide) (by decide) q) ?_
        show Go _ _ _ _ _ _ _ (T17.setTop (mkF m 159 #[.val (.int x1), .val (.int x2), .val (.int x3), .val (.int x4), .val (.int x5), .val (.long x6), .second, .val (.ref b1), .val (.ref s1), .val (.ref b2), .val (.ref s2), .val (.ref b3), .val (.ref s3), .val (.ref n1), .val (.ref n2), .val (.int (0 : Int32)), .val (.int (1 : Int32)), .unset, .unset, .unset, .unset, .unset, .unset] [.null]))
        exact J27 _ (by rw [if_neg c150]) rfl
  · refine Go.of (fun _ q => XS.ifNo X17.here hx rfl (hb hby at_122) rfl ((if0 _ _).trans (feq c122).1) q) ?_
    show Go _ _ _ _ _ _ _ (T17.setTop (mkF m 125 #[.val (.int x1), .val (.int x2), .val (.int x3), .val (.int x4), .val (.int x5), .val (.long x6), .second, .val (.ref b1), .val (.ref s1), .val (.ref b2), .val (.ref s2), .val (.ref b3), .val (.ref s3), .val (.ref n1), .val (.ref n2), .unset, .unset, .unset, .unset, .unset, .unset, .unset, .unset] []))
    refine Go.of (fun _ q => XS.iconst X17.here hx rfl (hb hby at_125) q) ?_
    show Go _ _ _ _ _ _ _ (T17.setTop (mkF m 126 #[.val (.int x1), .val (.int x2), .val (.int x3), .val (.int x4), .val (.int x5), .val (.long x6), .second, .val (.ref b1), .val (.ref s1), .val (.ref b2), .val (.ref s2), .val (.ref b3), .val (.ref s3), .val (.ref n1), .val (.ref n2), .unset, .unset, .unset, .unset, .unset, .unset, .unset, .unset] [(.int (1 : Int32))]))
    refine Go.of (fun _ q => XS.goto X17.here hx rfl (pc0 := 126) (pc' := 130) rfl (hb hby at_126) (by decide) (by decide) q) ?_
    show Go _ _ _ _ _ _ _ (T17.setTop (mkF m 130 #[.val (.int x1), .val (.int x2), .val (.int x3), .val (.int x4), .val (.int x5), .val (.long x6), .second, .val (.ref b1), .val (.ref s1), .val (.ref b2), .val (.ref s2), .val (.ref b3), .val (.ref s3), .val (.ref n1), .val (.ref n2), .unset, .unset, .unset, .unset, .unset, .unset, .unset, .unset] [(.int (1 : Int32))]))
    refine Go.of (fun _ q => XS.istore X17.here hx rfl (hb hby at_130) rfl (l' := #[.val (.int x1), .val (.int x2), .val (.int x3), .val (.int x4), .val (.int x5), .val (.long x6), .second, .val (.ref b1), .val (.ref s1), .val (.ref b2), .val (.ref s2), .val (.ref b3), .val (.ref s3), .val (.ref n1), .val (.ref n2), .val (.int (1 : Int32)), .unset, .unset, .unset, .unset, .unset, .unset, .unset]) rfl q) ?_
    show Go _ _ _ _ _ _ _ (T17.setTop (mkF m 132 #[.val (.int x1), .val (.int x2), .val (.int x3), .val (.int x4), .val (.int x5), .val (.long x6), .second, .val (.ref b1), .val (.ref s1), .val (.ref b2), .val (.ref s2), .val (.ref b3), .val (.ref s3), .val (.ref n1), .val (.ref n2), .val (.int (1 : Int32)), .unset, .unset, .unset, .unset, .unset, .unset, .unset] []))
    refine Go.of (fun _ q => XS.iload X17.here hx rfl (hb hby at_132) rfl q) ?_
    show Go _ _ _ _ _ _ _ (T17.setTop (mkF m 134 #[.val (.int x1), .val (.int x2), .val (.int x3), .val (.int x4), .val (.int x5), .val (.long x6), .second, .val (.ref b1), .val (.ref s1), .val (.ref b2), .val (.ref s2), .val (.ref b3), .val (.ref s3), .val (.ref n1), .val (.ref n2), .val (.int (1 : Int32)), .unset, .unset, .unset, .unset, .unset, .unset, .unset] [(.int x5)]))
    refine Go.of (fun _ q => XS.iconst X17.here hx rfl (hb hby at_134) q) ?_
    show Go _ _ _ _ _ _ _ (T17.setTop (mkF m 135 #[.val (.int x1), .val (.int x2), .val (.int x3), .val (.int x4), .val (.int x5), .val (.long x6), .second, .val (.ref b1), .val (.ref s1), .val (.ref b2), .val (.ref s2), .val (.ref b3), .val (.ref s3), .val (.ref n1), .val (.ref n2), .val (.int (1 : Int32)), .unset, .unset, .unset, .unset, .unset, .unset, .unset] [(.int (2 : Int32)), (.int x5)]))
    refine Go.of (fun _ q => XS.iand X17.here hx rfl (hb hby at_135) rfl q) ?_
    show Go _ _ _ _ _ _ _ (T17.setTop (mkF m 136 #[.val (.int x1), .val (.int x2), .val (.int x3), .val (.int x4), .val (.int x5), .val (.long x6), .second, .val (.ref b1), .val (.ref s1), .val (.ref b2), .val (.ref s2), .val (.ref b3), .val (.ref s3), .val (.ref n1), .val (.ref n2), .val (.int (1 : Int32)), .unset, .unset, .unset, .unset, .unset, .unset, .unset] [(.int (x5 &&& (2 : Int32)))]))
    by_cases c136 : (x5 &&& (2 : Int32)) = (0 : Int32)
    · refine Go.of (fun _ q => XS.ifYes X17.here hx rfl (pc0 := 136) (pc' := 143) rfl (hb hby at_136) rfl ((if0 _ _).trans (teq c136).1) (by decide) (by decide) q) ?_
      show Go _ _ _ _ _ _ _ (T17.setTop (mkF m 143 #[.val (.int x1), .val (.int x2), .val (.int x3), .val (.int x4), .val (.int x5), .val (.long x6), .second, .val (.ref b1), .val (.ref s1), .val (.ref b2), .val (.ref s2), .val (.ref b3), .val (.ref s3), .val (.ref n1), .val (.ref n2), .val (.int (1 : Int32)), .unset, .unset, .unset, .unset, .unset, .unset, .unset] []))
      refine Go.of (fun _ q => XS.iconst X17.here hx rfl (hb hby at_143) q) ?_
      show Go _ _ _ _ _ _ _ (T17.setTop (mkF m 144 #[.val (.int x1), .val (.int x2), .val (.int x3), .val (.int x4), .val (.int x5), .val (.long x6), .second, .val (.ref b1), .val (.ref s1), .val (.ref b2), .val (.ref s2), .val (.ref b3), .val (.ref s3), .val (.ref n1), .val (.ref n2), .val (.int (1 : Int32)), .unset, .unset, .unset, .unset, .unset, .unset, .unset] [(.int (0 : Int32))]))
      refine Go.of (fun _ q => XS.istore X17.here hx rfl (hb hby at_144) rfl (l' := #[.val (.int x1), .val (.int x2), .val (.int x3), .val (.int x4), .val (.int x5), .val (.long x6), .second, .val (.ref b1), .val (.ref s1), .val (.ref b2), .val (.ref s2), .val (.ref b3), .val (.ref s3), .val (.ref n1), .val (.ref n2), .val (.int (1 : Int32)), .val (.int (0 : Int32)), .unset, .unset, .unset, .unset, .unset, .unset]) rfl q) ?_
      show Go _ _ _ _ _ _ _ (T17.setTop (mkF m 146 #[.val (.int x1), .val (.int x2), .val (.int x3), .val (.int x4), .val (.int x5), .val (.long x6), .second, .val (.ref b1), .val (.ref s1), .val (.ref b2), .val (.ref s2), .val (.ref b3), .val (.ref s3), .val (.ref n1), .val (.ref n2), .val (.int (1 : Int32)), .val (.int (0 : Int32)), .unset, .unset, .unset, .unset, .unset, .unset] []))
      refine Go.of (fun _ q => XS.iload X17.here hx rfl (hb hby at_146) rfl q) ?_
      show Go _ _ _ _ _ _ _ (T17.setTop (mkF m 148 #[.val (.int x1), .val (.int x2), .val (.int x3), .val (.int x4), .val (.int x5), .val (.long x6), .second, .val (.ref b1), .val (.ref s1), .val (.ref b2), .val (.ref s2), .val (.ref b3), .val (.ref s3), .val (.ref n1), .val (.ref n2), .val (.int (1 : Int32)), .val (.int (0 : Int32)), .unset, .unset, .unset, .unset, .unset, .unset] [(.int x5)]))
      refine Go.of (fun _ q => XS.iconst X17.here hx rfl (hb hby at_148) q) ?_
      show Go _ _ _ _ _ _ _ (T17.setTop (mkF m 149 #[.val (.int x1), .val (.int x2), .val (.int x3), .val (.int x4), .val (.int x5), .val (.long x6), .second, .val (.ref b1), .val (.ref s1), .val (.ref b2), .val (.ref s2), .val (.ref b3), .val (.ref s3), .val (.ref n1), .val (.ref n2), .val (.int (1 : Int32)), .val (.int (0 : Int32)), .unset, .unset, .unset, .unset, .unset, .unset] [(.int (4 : Int32)), (.int x5)]))
      refine Go.of (fun _ q => XS.iand X17.here hx rfl (hb hby at_149) rfl q) ?_
      show Go _ _ _ _ _ _ _ (T17.setTop (mkF m 150 #[.val (.int x1), .val (.int x2), .val (.int x3), .val (.int x4), .val (.int x5), .val (.long x6), .second, .val (.ref b1), .val (.ref s1), .val (.ref b2), .val (.ref s2), .val (.ref b3), .val (.ref s3), .val (.ref n1), .val (.ref n2), .val (.int (1 : Int32)), .val (.int (0 : Int32)), .unset, .unset, .unset, .unset, .unset, .unset] [(.int (x5 &&& (4 : Int32)))]))
      have J38 : ∀ (zJ38_0 : Value), zJ38_0 = ((if (x5 &&& (4 : Int32)) = (0 : Int32) then (.ref s2) else .null) : Value) → zJ38_0.isRef = true → Go p e below s room_1.cells room_1.slots (Q0 Z x1 x2 x3 x4 x5 x6 cs h0 n0) (T17.setTop (mkF m 159 #[.val (.int x1), .val (.int x2), .val (.int x3), .val (.int x4), .val (.int x5), .val (.long x6), .second, .val (.ref b1), .val (.ref s1), .val (.ref b2), .val (.ref s2), .val (.ref b3), .val (.ref s3), .val (.ref n1), .val (.ref n2), .val (.int (1 : Int32)), .val (.int (0 : Int32)), .unset, .unset, .unset, .unset, .unset, .unset] [zJ38_0])) := by
        intro zJ38_0 hzJ38_0 rzJ38_0
        show Go _ _ _ _ _ _ _ (T17.setTop (mkF m 159 #[.val (.int x1), .val (.int x2), .val (.int x3), .val (.int x4), .val (.int x5), .val (.long x6), .second, .val (.ref b1), .val (.ref s1), .val (.ref b2), .val (.ref s2), .val (.ref b3), .val (.ref s3), .val (.ref n1), .val (.ref n2), .val (.int (1 : Int32)), .val (.int (0 : Int32)), .unset, .unset, .unset, .unset, .unset, .unset] [zJ38_0]))
        refine Go.of (fun _ q => XS.astore X17.here hx rfl (hb hby at_159) rfl rzJ38_0 (l' := #[.val (.int x1), .val (.int x2), .val (.int x3), .val (.int x4), .val (.int x5), .val (.long x6), .second, .val (.ref b1), .val (.ref s1), .val (.ref b2), .val (.ref s2), .val (.ref b3), .val (.ref s3), .val (.ref n1), .val (.ref n2), .val (.int (1 : Int32)), .val (.int (0 : Int32)), .val zJ38_0, .unset, .unset, .unset, .unset, .unset]) (by first | rfl | (cases zJ38_0 <;> first | rfl | (simp [Value.isRef] at rzJ38_0; done))) q) ?_
        show Go _ _ _ _ _ _ _ (T17.setTop (mkF m 161 #[.val (.int x1), .val (.int x2), .val (.int x3), .val (.int x4), .val (.int x5), .val (.long x6), .second, .val (.ref b1), .val (.ref s1), .val (.ref b2), .val (.ref s2), .val (.ref b3), .val (.ref s3), .val (.ref n1), .val (.ref n2), .val (.int (1 : Int32)), .val (.int (0 : Int32)), .val zJ38_0, .unset, .unset, .unset, .unset, .unset] []))
        refine Go.of (fun _ q => XS.iload X17.here hx rfl (hb hby at_161) rfl q) ?_
        show Go _ _ _ _ _ _ _ (T17.setTop (mkF m 163 #[.val (.int x1), .val (.int x2), .val (.int x3), .val (.int x4), .val (.int x5), .val (.long x6), .second, .val (.ref b1), .val (.ref s1), .val (.ref b2), .val (.ref s2), .val (.ref b3), .val (.ref s3), .val (.ref n1), .val (.ref n2), .val (.int (1 : Int32)), .val (.int (0 : Int32)), .val zJ38_0, .unset, .unset, .unset, .unset, .unset] [(.int x5)]))
        refine Go.of (fun _ q => XS.bipush X17.here hx rfl (hb hby at_163) q) ?_
        show Go _ _ _ _ _ _ _ (T17.setTop (mkF m 165 #[.val (.int x1), .val (.int x2), .val (.int x3), .val (.int x4), .val (.int x5), .val (.long x6), .second, .val (.ref b1), .val (.ref s1), .val (.ref b2), .val (.ref s2), .val (.ref b3), .val (.ref s3), .val (.ref n1), .val (.ref n2), .val (.int (1 : Int32)), .val (.int (0 : Int32)), .val zJ38_0, .unset, .unset, .unset, .unset, .unset] [(.int (8 : Int32)), (.int x5)]))
        refine Go.of (fun _ q => XS.iand X17.here hx rfl (hb hby at_165) rfl q) ?_
        show Go _ _ _ _ _ _ _ (T17.setTop (mkF m 166 #[.val (.int x1), .val (.int x2), .val (.int x3), .val (.int x4), .val (.int x5), .val (.long x6), .second, .val (.ref b1), .val (.ref s1), .val (.ref b2), .val (.ref s2), .val (.ref b3), .val (.ref s3), .val (.ref n1), .val (.ref n2), .val (.int (1 : Int32)), .val (.int (0 : Int32)), .val zJ38_0, .unset, .unset, .unset, .unset, .unset] [(.int (x5 &&& (8 : Int32)))]))
        have J39 : ∀ (zJ39_0 : Value), zJ39_0 = ((if (x5 &&& (8 : Int32)) = (0 : Int32) then (.ref n2) else .null) : Value) → zJ39_0.isRef = true → Go p e below s room_1.cells room_1.slots (Q0 Z x1 x2 x3 x4 x5 x6 cs h0 n0) (T17.setTop (mkF m 175 #[.val (.int x1), .val (.int x2), .val (.int x3), .val (.int x4), .val (.int x5), .val (.long x6), .second, .val (.ref b1), .val (.ref s1), .val (.ref b2), .val (.ref s2), .val (.ref b3), .val (.ref s3), .val (.ref n1), .val (.ref n2), .val (.int (1 : Int32)), .val (.int (0 : Int32)), .val zJ38_0, .unset, .unset, .unset, .unset, .unset] [zJ39_0])) := by
          intro zJ39_0 hzJ39_0 rzJ39_0
          show Go _ _ _ _ _ _ _ (T17.setTop (mkF m 175 #[.val (.int x1), .val (.int x2), .val (.int x3), .val (.int x4), .val (.int x5), .val (.long x6), .second, .val (.ref b1), .val (.ref s1), .val (.ref b2), .val (.ref s2), .val (.ref b3), .val (.ref s3), .val (.ref n1), .val (.ref n2), .val (.int (1 : Int32)), .val (.int (0 : Int32)), .val zJ38_0, .unset, .unset, .unset, .unset, .unset] [zJ39_0]))
          refine Go.of (fun _ q => XS.astore X17.here hx rfl (hb hby at_175) rfl rzJ39_0 (l' := #[.val (.int x1), .val (.int x2), .val (.int x3), .val (.int x4), .val (.int x5), .val (.long x6), .second, .val (.ref b1), .val (.ref s1), .val (.ref b2), .val (.ref s2), .val (.ref b3), .val (.ref s3), .val (.ref n1), .val (.ref n2), .val (.int (1 : Int32)), .val (.int (0 : Int32)), .val zJ38_0, .val zJ39_0, .unset, .unset, .unset, .unset]) (by first | rfl | (cases zJ39_0 <;> first | rfl | (simp [Value.isRef] at rzJ39_0; done))) q) ?_
          show Go _ _ _ _ _ _ _ (T17.setTop (mkF m 177 #[.val (.int x1), .val (.int x2), .val (.int x3), .val (.int x4), .val (.int x5), .val (.long x6), .second, .val (.ref b1), .val (.ref s1), .val (.ref b2), .val (.ref s2), .val (.ref b3), .val (.ref s3), .val (.ref n1), .val (.ref n2), .val (.int (1 : Int32)), .val (.int (0 : Int32)), .val zJ38_0, .val zJ39_0, .unset, .unset, .unset, .unset] []))
          obtain ⟨T40, h40, X40, e40, E40, A40, D40, -, st40⟩ := newO X17 hx hZ hown (hw _ (List.mem_of_getElem? (i := 46) rfl)) (hw _ (List.mem_of_getElem? (i := 47) rfl)) (hw _ (List.mem_of_getElem? (i := 48) rfl)) rfl (g := (mkF m 177 #[.val (.int x1), .val (.int x2), .val (.int x3), .val (.int x4), .val (.int x5), .val (.long x6), .second, .val (.ref b1), .val (.ref s1), .val (.ref b2), .val (.ref s2), .val (.ref b3), .val (.ref s3), .val (.ref n1), .val (.ref n2), .val (.int (1 : Int32)), .val (.int (0 : Int32)), .val zJ38_0, .val zJ39_0, .unset, .unset, .unset, .unset] [])) rfl (hb hby at_177) (by decide) (by decide)
          obtain ⟨a, g40⟩ : ∃ z, z = T17.heap.size := ⟨_, rfl⟩
          rw [← g40] at A40 D40 st40
          refine Go.of st40 ?_
          have g_a : n0 ≤ a := Nat.le_trans Zs (Nat.le_of_eq g40.symm)
          have sz_a : h0.size ≤ a := Nat.le_trans Kp.1 (Nat.le_of_eq g40.symm)
          have ne_b1_a : b1 ≠ a := Nat.ne_of_lt (Nat.lt_of_lt_of_le E_b1.lt (Nat.le_of_eq g40.symm))
          have ne_s1_a : s1 ≠ a := Nat.ne_of_lt (Nat.lt_of_lt_of_le E_s1.lt (Nat.le_of_eq g40.symm))
          have ne_d1_a : d1 ≠ a := Nat.ne_of_lt (Nat.lt_of_lt_of_le A_d1.lt (Nat.le_of_eq g40.symm))
          have ne_b2_a : b2 ≠ a := Nat.ne_of_lt (Nat.lt_of_lt_of_le E_b2.lt (Nat.le_of_eq g40.symm))
          have ne_s2_a : s2 ≠ a := Nat.ne_of_lt (Nat.lt_of_lt_of_le E_s2.lt (Nat.le_of_eq g40.symm))
          have ne_d2_a : d2 ≠ a := Nat.ne_of_lt (Nat.lt_of_lt_of_le A_d2.lt (Nat.le_of_eq g40.symm))
          have ne_b3_a : b3 ≠ a := Nat.ne_of_lt (Nat.lt_of_lt_of_le E_b3.lt (Nat.le_of_eq g40.symm))
          have ne_s3_a : s3 ≠ a := Nat.ne_of_lt (Nat.lt_of_lt_of_le E_s3.lt (Nat.le_of_eq g40.symm))
          have ne_d3_a : d3 ≠ a := Nat.ne_of_lt (Nat.lt_of_lt_of_le A_d3.lt (Nat.le_of_eq g40.symm))
          have ne_n1_a : n1 ≠ a := Nat.ne_of_lt (Nat.lt_of_lt_of_le E_n1.lt (Nat.le_of_eq g40.symm))
          have ne_n2_a : n2 ≠ a := Nat.ne_of_lt (Nat.lt_of_lt_of_le E_n2.lt (Nat.le_of_eq g40.symm))
          have Zs := Nat.le_trans Zs E40.1
          have Kp := Kp.ext E40
          have Od := Od.ext E40
          have E_b1 := E_b1.ext E40
          have A_b1 := A_b1.ext E40
          have E_s1 := E_s1.ext E40
          have F_s1_value := F_s1_value.ext E40
          have F_s1_coder := F_s1_coder.ext E40
          have A_d1 := A_d1.ext E40
          have E_b2 := E_b2.ext E40
          have A_b2 := A_b2.ext E40
          have E_s2 := E_s2.ext E40
          have F_s2_value := F_s2_value.ext E40
          have F_s2_coder := F_s2_coder.ext E40
          have A_d2 := A_d2.ext E40
          have E_b3 := E_b3.ext E40
          have A_b3 := A_b3.ext E40
          have E_s3 := E_s3.ext E40
          have F_s3_value := F_s3_value.ext E40
          have F_s3_coder := F_s3_coder.ext E40
          have A_d3 := A_d3.ext E40
          have E_n1 := E_n1.ext E40
          have E_n2 := E_n2.ext E40
          have E_a := A40
          have F_a_client : Fld Z h40 a "com/example/lane/lane/AccessRecord" "client" "Ljava/lang/String;" .null := D40 (Or.inr (hw _ (List.mem_of_getElem? (i := 54) rfl))) (ty := (.object "java/lang/String")) (by decide)
          have F_a_start : Fld Z h40 a "com/example/lane/lane/AccessRecord" "start" "J" (.long (0 : Int64)) := D40 (Or.inr (hw _ (List.mem_of_getElem? (i := 56) rfl))) (ty := .long) (by decide)
          have F_a_attempts : Fld Z h40 a "com/example/lane/lane/AccessRecord" "attempts" "I" (.int (0 : Int32)) := D40 (Or.inl (hw _ (List.mem_of_getElem? (i := 63) rfl))) (ty := .int) (by decide)
          have F_a_upstream : Fld Z h40 a "com/example/lane/lane/AccessRecord" "upstream" "Ljava/lang/String;" .null := D40 (Or.inl (hw _ (List.mem_of_getElem? (i := 70) rfl))) (ty := (.object "java/lang/String")) (by decide)
          have F_a_node : Fld Z h40 a "com/example/lane/lane/AccessRecord" "node" "Lcom/example/lane/lane/config/HostPort;" .null := D40 (Or.inl (hw _ (List.mem_of_getElem? (i := 77) rfl))) (ty := (.object "com/example/lane/lane/config/HostPort")) (by decide)
          have F_a_status : Fld Z h40 a "com/example/lane/lane/AccessRecord" "status" "I" (.int (0 : Int32)) := D40 (Or.inl (hw _ (List.mem_of_getElem? (i := 84) rfl))) (ty := .int) (by decide)
          have F_a_route : Fld Z h40 a "com/example/lane/lane/AccessRecord" "route" "Ljava/lang/String;" .null := D40 (Or.inl (hw _ (List.mem_of_getElem? (i := 91) rfl))) (ty := (.object "java/lang/String")) (by decide)
          show Go _ _ _ _ _ _ _ (T40.setTop (mkF m 180 #[.val (.int x1), .val (.int x2), .val (.int x3), .val (.int x4), .val (.int x5), .val (.long x6), .second, .val (.ref b1), .val (.ref s1), .val (.ref b2), .val (.ref s2), .val (.ref b3), .val (.ref s3), .val (.ref n1), .val (.ref n2), .val (.int (1 : Int32)), .val (.int (0 : Int32)), .val zJ38_0, .val zJ39_0, .unset, .unset, .unset, .unset] [(.ref a)]))
          refine Go.of (fun _ q => XS.dup X40.here hx rfl (hb hby at_180) rfl rfl q) ?_
          show Go _ _ _ _ _ _ _ (T40.setTop (mkF m 181 #[.val (.int x1), .val (.int x2), .val (.int x3), .val (.int x4), .val (.int x5), .val (.long x6), .second, .val (.ref b1), .val (.ref s1), .val (.ref b2), .val (.ref s2), .val (.ref b3), .val (.ref s3), .val (.ref n1), .val (.ref n2), .val (.int (1 : Int32)), .val (.int (0 : Int32)), .val zJ38_0, .val zJ39_0, .unset, .unset, .unset, .unset] [(.ref a), (.ref a)]))
          refine Go.of (fun _ q => XS.aload X40.here hx rfl (hb hby at_181) rfl rfl q) ?_
          show Go _ _ _ _ _ _ _ (T40.setTop (mkF m 183 #[.val (.int x1), .val (.int x2), .val (.int x3), .val (.int x4), .val (.int x5), .val (.long x6), .second, .val (.ref b1), .val (.ref s1), .val (.ref b2), .val (.ref s2), .val (.ref b3), .val (.ref s3), .val (.ref n1), .val (.ref n2), .val (.int (1 : Int32)), .val (.int (0 : Int32)), .val zJ38_0, .val zJ39_0, .unset, .unset, .unset, .unset] [(.ref s3), (.ref a), (.ref a)]))
          refine Go.of (fun _ q => XS.lload X40.here hx rfl (hb hby at_183) rfl q) ?_
          show Go _ _ _ _ _ _ _ (T40.setTop (mkF m 185 #[.val (.int x1), .val (.int x2), .val (.int x3), .val (.int x4), .val (.int x5), .val (.long x6), .second, .val (.ref b1), .val (.ref s1), .val (.ref b2), .val (.ref s2), .val (.ref b3), .val (.ref s3), .val (.ref n1), .val (.ref n2), .val (.int (1 : Int32)), .val (.int (0 : Int32)), .val zJ38_0, .val zJ39_0, .unset, .unset, .unset, .unset] [(.long x6), (.ref s3), (.ref a), (.ref a)]))
          refine Go.special X40 hx hZ (y := (⟨"com/example/lane/lane/AccessRecord", "<init>", "(Ljava/lang/String;J)V"⟩ : MethodName)) (a := a) (argsL := [(.ref s3), (.long x6)]) rfl hown (hw _ (List.mem_of_getElem? (i := 49) rfl)) (hw _ (List.mem_of_getElem? (i := 50) rfl)) (hw _ (List.mem_of_getElem? (i := 48) rfl)) (hw _ (List.mem_of_getElem? (i := 51) rfl)) (by decide) 1 e40 (rm9 l Z a0 hw a s3 x6 .null (0 : Int64) .null .null (0 : Int32) h40 n0 Zs E_a F_a_client F_a_start F_a_upstream F_a_node F_a_attempts F_a_status F_a_route g_a) (by decide) (by decide) (by decide) (by decide) (g := (mkF m 185 #[.val (.int x1), .val (.int x2), .val (.int x3), .val (.int x4), .val (.int x5), .val (.long x6), .second, .val (.ref b1), .val (.ref s1), .val (.ref b2), .val (.ref s2), .val (.ref b3), .val (.ref s3), .val (.ref n1), .val (.ref n2), .val (.int (1 : Int32)), .val (.int (0 : Int32)), .val zJ38_0, .val zJ39_0, .unset, .unset, .unset, .unset] [(.long x6), (.ref s3), (.ref a), (.ref a)])) rfl (by rw [hml]; rfl) (rest := [(.ref a)]) (lenOf pd7 rfl) rfl (by show 2 * 0 + _ ≤ _; exact Nat.le_of_eq rfl) (hb hby at_185) ?_
          intro T41 v41 L41 X41 q41
          obtain ⟨rfl, Nq41, K41, f41_0, f41_1, f41_2, f41_3, f41_4, f41_5⟩ := q41
          have N41 := Fr.app N17 Nq41
          have Zs := Nat.le_trans Zs K41.1
          have Kp := Kp.trans K41 (allS (P := fun x => x ∈ [] ∨ h0.size ≤ x) (Or.inr sz_a) all0)
          have Od := Od.keep K41 (allS (P := fun x => n0 ≤ x) g_a all0)
          have E_b1 := E_b1.keep K41
          have A_b1 := A_b1.keep K41 (ninS ne_b1_a nin0)
          have E_s1 := E_s1.keep K41
          have F_s1_value := F_s1_value.keep K41 (ninS ne_s1_a nin0)
          have F_s1_coder := F_s1_coder.keep K41 (ninS ne_s1_a nin0)
          have A_d1 := A_d1.keep K41 (ninS ne_d1_a nin0)
          have E_b2 := E_b2.keep K41
          have A_b2 := A_b2.keep K41 (ninS ne_b2_a nin0)
          have E_s2 := E_s2.keep K41
          have F_s2_value := F_s2_value.keep K41 (ninS ne_s2_a nin0)
          have F_s2_coder := F_s2_coder.keep K41 (ninS ne_s2_a nin0)
          have A_d2 := A_d2.keep K41 (ninS ne_d2_a nin0)
          have E_b3 := E_b3.keep K41
          have A_b3 := A_b3.keep K41 (ninS ne_b3_a nin0)
          have E_s3 := E_s3.keep K41
          have F_s3_value := F_s3_value.keep K41 (ninS ne_s3_a nin0)
          have F_s3_coder := F_s3_coder.keep K41 (ninS ne_s3_a nin0)
          have A_d3 := A_d3.keep K41 (ninS ne_d3_a nin0)
          have E_n1 := E_n1.keep K41
          have E_n2 := E_n2.keep K41
          have E_a := E_a.keep K41
          have F_a_upstream := f41_1
          have F_a_node := f41_2
          have F_a_attempts := f41_3
          have F_a_status := f41_4
          have F_a_route := f41_5
          show Go _ _ _ _ _ _ _ (T41.setTop (mkF m 188 #[.val (.int x1), .val (.int x2), .val (.int x3), .val (.int x4), .val (.int x5), .val (.long x6), .second, .val (.ref b1), .val (.ref s1), .val (.ref b2), .val (.ref s2), .val (.ref b3), .val (.ref s3), .val (.ref n1), .val (.ref n2), .val (.int (1 : Int32)), .val (.int (0 : Int32)), .val zJ38_0, .val zJ39_0, .unset, .unset, .unset, .unset] [(.ref a)]))
          refine Go.of (fun _ q => XS.astore X41.here hx rfl (hb hby at_188) rfl rfl (l' := #[.val (.int x1), .val (.int x2), .val (.int x3), .val (.int x4), .val (.int x5), .val (.long x6), .second, .val (.ref b1), .val (.ref s1), .val (.ref b2), .val (.ref s2), .val (.ref b3), .val (.ref s3), .val (.ref n1), .val (.ref n2), .val (.int (1 : Int32)), .val (.int (0 : Int32)), .val zJ38_0, .val zJ39_0, .val (.ref a), .unset, .unset, .unset]) rfl q) ?_
          show Go _ _ _ _ _ _ _ (T41.setTop (mkF m 190 #[.val (.int x1), .val (.int x2), .val (.int x3), .val (.int x4), .val (.int x5), .val (.long x6), .second, .val (.ref b1), .val (.ref s1), .val (.ref b2), .val (.ref s2), .val (.ref b3), .val (.ref s3), .val (.ref n1), .val (.ref n2), .val (.int (1 : Int32)), .val (.int (0 : Int32)), .val zJ38_0, .val zJ39_0, .val (.ref a), .unset, .unset, .unset] []))
          refine Go.of (fun _ q => XS.iload X41.here hx rfl (hb hby at_190) rfl q) ?_
          show Go _ _ _ _ _ _ _ (T41.setTop (mkF m 192 #[.val (.int x1), .val (.int x2), .val (.int x3), .val (.int x4), .val (.int x5), .val (.long x6), .second, .val (.ref b1), .val (.ref s1), .val (.ref b2), .val (.ref s2), .val (.ref b3), .val (.ref s3), .val (.ref n1), .val (.ref n2), .val (.int (1 : Int32)), .val (.int (0 : Int32)), .val zJ38_0, .val zJ39_0, .val (.ref a), .unset, .unset, .unset] [(.int (1 : Int32))]))
          refine Go.of (fun _ q => XS.ifNo X41.here hx rfl (hb hby at_192) rfl ((if0 _ _).trans (feq (by decide)).1) q) ?_
          show Go _ _ _ _ _ _ _ (T41.setTop (mkF m 195 #[.val (.int x1), .val (.int x2), .val (.int x3), .val (.int x4), .val (.int x5), .val (.long x6), .second, .val (.ref b1), .val (.ref s1), .val (.ref b2), .val (.ref s2), .val (.ref b3), .val (.ref s3), .val (.ref n1), .val (.ref n2), .val (.int (1 : Int32)), .val (.int (0 : Int32)), .val zJ38_0, .val zJ39_0, .val (.ref a), .unset, .unset, .unset] []))
          refine Go.of (fun _ q => XS.aload X41.here hx rfl (hb hby at_195) rfl rfl q) ?_
          show Go _ _ _ _ _ _ _ (T41.setTop (mkF m 197 #[.val (.int x1), .val (.int x2), .val (.int x3), .val (.int x4), .val (.int x5), .val (.long x6), .second, .val (.ref b1), .val (.ref s1), .val (.ref b2), .val (.ref s2), .val (.ref b3), .val (.ref s3), .val (.ref n1), .val (.ref n2), .val (.int (1 : Int32)), .val (.int (0 : Int32)), .val zJ38_0, .val zJ39_0, .val (.ref a), .unset, .unset, .unset] [(.ref a)]))
          refine Go.of (fun _ q => XS.aload X41.here hx rfl (hb hby at_197) rfl rfl q) ?_
          show Go _ _ _ _ _ _ _ (T41.setTop (mkF m 199 #[.val (.int x1), .val (.int x2), .val (.int x3), .val (.int x4), .val (.int x5), .val (.long x6), .second, .val (.ref b1), .val (.ref s1), .val (.ref b2), .val (.ref s2), .val (.ref b3), .val (.ref s3), .val (.ref n1), .val (.ref n2), .val (.int (1 : Int32)), .val (.int (0 : Int32)), .val zJ38_0, .val zJ39_0, .val (.ref a), .unset, .unset, .unset] [(.ref s1), (.ref a)]))
          refine Go.of (fun _ q => XS.aload X41.here hx rfl (hb hby at_199) rfl rfl q) ?_
          show Go _ _ _ _ _ _ _ (T41.setTop (mkF m 201 #[.val (.int x1), .val (.int x2), .val (.int x3), .val (.int x4), .val (.int x5), .val (.long x6), .second, .val (.ref b1), .val (.ref s1), .val (.ref b2), .val (.ref s2), .val (.ref b3), .val (.ref s3), .val (.ref n1), .val (.ref n2), .val (.int (1 : Int32)), .val (.int (0 : Int32)), .val zJ38_0, .val zJ39_0, .val (.ref a), .unset, .unset, .unset] [(.ref n1), (.ref s1), (.ref a)]))
          refine Go.virtual X41 hx hZ (y := (⟨"com/example/lane/lane/AccessRecord", "tried", "(Ljava/lang/String;Lcom/example/lane/lane/config/HostPort;)V"⟩ : MethodName)) (z := (⟨"com/example/lane/lane/AccessRecord", "tried", "(Ljava/lang/String;Lcom/example/lane/lane/config/HostPort;)V"⟩ : MethodName)) (a := a) (argsL := [(.ref s1), (.ref n1)]) hown (hw _ (List.mem_of_getElem? (i := 92) rfl)) (hw _ (List.mem_of_getElem? (i := 93) rfl)) (notFace_of_selects (args := #[]) (mvT hZ (hw _ (List.mem_of_getElem? (i := 95) rfl)))) (hw _ (List.mem_of_getElem? (i := 95) rfl)) (hw _ (List.mem_of_getElem? (i := 94) rfl)) (hw _ (List.mem_of_getElem? (i := 48) rfl)) (hw _ (List.mem_of_getElem? (i := 96) rfl)) (by decide) 0 rfl E_a (rm15 l Z a0 hw a (.ref s1) rfl (.ref n1) rfl .null .null (0 : Int32) T41.heap n0 Zs E_a F_a_upstream F_a_node F_a_attempts F_a_status F_a_route g_a) (by decide) (by decide) (by decide) (by decide) (g := (mkF m 201 #[.val (.int x1), .val (.int x2), .val (.int x3), .val (.int x4), .val (.int x5), .val (.long x6), .second, .val (.ref b1), .val (.ref s1), .val (.ref b2), .val (.ref s2), .val (.ref b3), .val (.ref s3), .val (.ref n1), .val (.ref n2), .val (.int (1 : Int32)), .val (.int (0 : Int32)), .val zJ38_0, .val zJ39_0, .val (.ref a), .unset, .unset, .unset] [(.ref n1), (.ref s1), (.ref a)])) rfl (by rw [hml]; rfl) (rest := []) (lenOf pd11 rfl) rfl (by show 2 * 0 + _ ≤ _; exact Nat.le_of_eq rfl) (hb hby at_201) ?_
          intro T42 v42 L42 X42 q42
          obtain ⟨rfl, Nq42, K42, f42_0, f42_1, f42_2, f42_3, f42_4, f42_5⟩ := q42
          have N42 := Fr.app N41 Nq42
          have Zs := Nat.le_trans Zs K42.1
          have Kp := Kp.trans K42 (allS (P := fun x => x ∈ [] ∨ h0.size ≤ x) (Or.inr sz_a) all0)
          have Od := Od.keep K42 (allS (P := fun x => n0 ≤ x) g_a all0)
          have E_b1 := E_b1.keep K42
          have A_b1 := A_b1.keep K42 (ninS ne_b1_a nin0)
          have E_s1 := E_s1.keep K42
          have F_s1_value := F_s1_value.keep K42 (ninS ne_s1_a nin0)
          have F_s1_coder := F_s1_coder.keep K42 (ninS ne_s1_a nin0)
          have A_d1 := A_d1.keep K42 (ninS ne_d1_a nin0)
          have E_b2 := E_b2.keep K42
          have A_b2 := A_b2.keep K42 (ninS ne_b2_a nin0)
          have E_s2 := E_s2.keep K42
          have F_s2_value := F_s2_value.keep K42 (ninS ne_s2_a nin0)
          have F_s2_coder := F_s2_coder.keep K42 (ninS ne_s2_a nin0)
          have A_d2 := A_d2.keep K42 (ninS ne_d2_a nin0)
          have E_b3 := E_b3.keep K42
          have A_b3 := A_b3.keep K42 (ninS ne_b3_a nin0)
          have E_s3 := E_s3.keep K42
          have F_s3_value := F_s3_value.keep K42 (ninS ne_s3_a nin0)
          have F_s3_coder := F_s3_coder.keep K42 (ninS ne_s3_a nin0)
          have A_d3 := A_d3.keep K42 (ninS ne_d3_a nin0)
          have E_n1 := E_n1.keep K42
          have E_n2 := E_n2.keep K42
          have E_a := E_a.keep K42
          have F_a_upstream := f42_1
          have F_a_node := f42_2
          have F_a_attempts := f42_3
          have F_a_status := f42_4
          have F_a_route := f42_5
          show Go _ _ _ _ _ _ _ (T42.setTop (mkF m 204 #[.val (.int x1), .val (.int x2), .val (.int x3), .val (.int x4), .val (.int x5), .val (.long x6), .second, .val (.ref b1), .val (.ref s1), .val (.ref b2), .val (.ref s2), .val (.ref b3), .val (.ref s3), .val (.ref n1), .val (.ref n2), .val (.int (1 : Int32)), .val (.int (0 : Int32)), .val zJ38_0, .val zJ39_0, .val (.ref a), .unset, .unset, .unset] []))
          refine Go.of (fun _ q => XS.iload X42.here hx rfl (hb hby at_204) rfl q) ?_
          show Go _ _ _ _ _ _ _ (T42.setTop (mkF m 206 #[.val (.int x1), .val (.int x2), .val (.int x3), .val (.int x4), .val (.int x5), .val (.long x6), .second, .val (.ref b1), .val (.ref s1), .val (.ref b2), .val (.ref s2), .val (.ref b3), .val (.ref s3), .val (.ref n1), .val (.ref n2), .val (.int (1 : Int32)), .val (.int (0 : Int32)), .val zJ38_0, .val zJ39_0, .val (.ref a), .unset, .unset, .unset] [(.int (0 : Int32))]))
          refine Go.of (fun _ q => XS.ifYes X42.here hx rfl (pc0 := 206) (pc' := 218) rfl (hb hby at_206) rfl ((if0 _ _).trans (teq rfl).1) (by decide) (by decide) q) ?_
          show Go _ _ _ _ _ _ _ (T42.setTop (mkF m 218 #[.val (.int x1), .val (.int x2), .val (.int x3), .val (.int x4), .val (.int x5), .val (.long x6), .second, .val (.ref b1), .val (.ref s1), .val (.ref b2), .val (.ref s2), .val (.ref b3), .val (.ref s3), .val (.ref n1), .val (.ref n2), .val (.int (1 : Int32)), .val (.int (0 : Int32)), .val zJ38_0, .val zJ39_0, .val (.ref a), .unset, .unset, .unset] []))
          refine Go.of (fun _ q => XS.iload X42.here hx rfl (hb hby at_218) rfl q) ?_
          show Go _ _ _ _ _ _ _ (T42.setTop (mkF m 220 #[.val (.int x1), .val (.int x2), .val (.int x3), .val (.int x4), .val (.int x5), .val (.long x6), .second, .val (.ref b1), .val (.ref s1), .val (.ref b2), .val (.ref s2), .val (.ref b3), .val (.ref s3), .val (.ref n1), .val (.ref n2), .val (.int (1 : Int32)), .val (.int (0 : Int32)), .val zJ38_0, .val zJ39_0, .val (.ref a), .unset, .unset, .unset] [(.int (1 : Int32))]))
          refine Go.of (fun _ q => XS.ifNo X42.here hx rfl (hb hby at_220) rfl ((if0 _ _).trans (feq (by decide)).1) q) ?_
          show Go _ _ _ _ _ _ _ (T42.setTop (mkF m 223 #[.val (.int x1), .val (.int x2), .val (.int x3), .val (.int x4), .val (.int x5), .val (.long x6), .second, .val (.ref b1), .val (.ref s1), .val (.ref b2), .val (.ref s2), .val (.ref b3), .val (.ref s3), .val (.ref n1), .val (.ref n2), .val (.int (1 : Int32)), .val (.int (0 : Int32)), .val zJ38_0, .val zJ39_0, .val (.ref a), .unset, .unset, .unset] []))
          refine Go.of (fun _ q => XS.iconst X42.here hx rfl (hb hby at_223) q) ?_
          show Go _ _ _ _ _ _ _ (T42.setTop (mkF m 224 #[.val (.int x1), .val (.int x2), .val (.int x3), .val (.int x4), .val (.int x5), .val (.long x6), .second, .val (.ref b1), .val (.ref s1), .val (.ref b2), .val (.ref s2), .val (.ref b3), .val (.ref s3), .val (.ref n1), .val (.ref n2), .val (.int (1 : Int32)), .val (.int (0 : Int32)), .val zJ38_0, .val zJ39_0, .val (.ref a), .unset, .unset, .unset] [(.int (1 : Int32))]))
          refine Go.of (fun _ q => XS.goto X42.here hx rfl (pc0 := 224) (pc' := 228) rfl (hb hby at_224) (by decide) (by decide) q) ?_
          show Go _ _ _ _ _ _ _ (T42.setTop (mkF m 228 #[.val (.int x1), .val (.int x2), .val (.int x3), .val (.int x4), .val (.int x5), .val (.long x6), .second, .val (.ref b1), .val (.ref s1), .val (.ref b2), .val (.ref s2), .val (.ref b3), .val (.ref s3), .val (.ref n1), .val (.ref n2), .val (.int (1 : Int32)), .val (.int (0 : Int32)), .val zJ38_0, .val zJ39_0, .val (.ref a), .unset, .unset, .unset] [(.int (1 : Int32))]))
          refine Go.of (fun _ q => XS.iload X42.here hx rfl (hb hby at_228) rfl q) ?_
          show Go _ _ _ _ _ _ _ (T42.setTop (mkF m 230 #[.val (.int x1), .val (.int x2), .val (.int x3), .val (.int x4), .val (.int x5), .val (.long x6), .second, .val (.ref b1), .val (.ref s1), .val (.ref b2), .val (.ref s2), .val (.ref b3), .val (.ref s3), .val (.ref n1), .val (.ref n2), .val (.int (1 : Int32)), .val (.int (0 : Int32)), .val zJ38_0, .val zJ39_0, .val (.ref a), .unset, .unset, .unset] [(.int (0 : Int32)), (.int (1 : Int32))]))
          refine Go.of (fun _ q => XS.ifYes X42.here hx rfl (pc0 := 230) (pc' := 237) rfl (hb hby at_230) rfl ((if0 _ _).trans (teq rfl).1) (by decide) (by decide) q) ?_
          show Go _ _ _ _ _ _ _ (T42.setTop (mkF m 237 #[.val (.int x1), .val (.int x2), .val (.int x3), .val (.int x4), .val (.int x5), .val (.long x6), .second, .val (.ref b1), .val (.ref s1), .val (.ref b2), .val (.ref s2), .val (.ref b3), .val (.ref s3), .val (.ref n1), .val (.ref n2), .val (.int (1 : Int32)), .val (.int (0 : Int32)), .val zJ38_0, .val zJ39_0, .val (.ref a), .unset, .unset, .unset] [(.int (1 : Int32))]))
          refine Go.of (fun _ q => XS.iconst X42.here hx rfl (hb hby at_237) q) ?_
          show Go _ _ _ _ _ _ _ (T42.setTop (mkF m 238 #[.val (.int x1), .val (.int x2), .val (.int x3), .val (.int x4), .val (.int x5), .val (.long x6), .second, .val (.ref b1), .val (.ref s1), .val (.ref b2), .val (.ref s2), .val (.ref b3), .val (.ref s3), .val (.ref n1), .val (.ref n2), .val (.int (1 : Int32)), .val (.int (0 : Int32)), .val zJ38_0, .val zJ39_0, .val (.ref a), .unset, .unset, .unset] [(.int (0 : Int32)), (.int (1 : Int32))]))
          refine Go.of (fun _ q => XS.iadd X42.here hx rfl (hb hby at_238) rfl q) ?_
          show Go _ _ _ _ _ _ _ (T42.setTop (mkF m 239 #[.val (.int x1), .val (.int x2), .val (.int x3), .val (.int x4), .val (.int x5), .val (.long x6), .second, .val (.ref b1), .val (.ref s1), .val (.ref b2), .val (.ref s2), .val (.ref b3), .val (.ref s3), .val (.ref n1), .val (.ref n2), .val (.int (1 : Int32)), .val (.int (0 : Int32)), .val zJ38_0, .val zJ39_0, .val (.ref a), .unset, .unset, .unset] [(.int (1 : Int32))]))
          refine Go.of (fun _ q => XS.istore X42.here hx rfl (hb hby at_239) rfl (l' := #[.val (.int x1), .val (.int x2), .val (.int x3), .val (.int x4), .val (.int x5), .val (.long x6), .second, .val (.ref b1), .val (.ref s1), .val (.ref b2), .val (.ref s2), .val (.ref b3), .val (.ref s3), .val (.ref n1), .val (.ref n2), .val (.int (1 : Int32)), .val (.int (0 : Int32)), .val zJ38_0, .val zJ39_0, .val (.ref a), .val (.int (1 : Int32)), .unset, .unset]) rfl q) ?_
          show Go _ _ _ _ _ _ _ (T42.setTop (mkF m 241 #[.val (.int x1), .val (.int x2), .val (.int x3), .val (.int x4), .val (.int x5), .val (.long x6), .second, .val (.ref b1), .val (.ref s1), .val (.ref b2), .val (.ref s2), .val (.ref b3), .val (.ref s3), .val (.ref n1), .val (.ref n2), .val (.int (1 : Int32)), .val (.int (0 : Int32)), .val zJ38_0, .val zJ39_0, .val (.ref a), .val (.int (1 : Int32)), .unset, .unset] []))
          refine Go.of (fun _ q => XS.iload X42.here hx rfl (hb hby at_241) rfl q) ?_
          show Go _ _ _ _ _ _ _ (T42.setTop (mkF m 243 #[.val (.int x1), .val (.int x2), .val (.int x3), .val (.int x4), .val (.int x5), .val (.long x6), .second, .val (.ref b1), .val (.ref s1), .val (.ref b2), .val (.ref s2), .val (.ref b3), .val (.ref s3), .val (.ref n1), .val (.ref n2), .val (.int (1 : Int32)), .val (.int (0 : Int32)), .val zJ38_0, .val zJ39_0, .val (.ref a), .val (.int (1 : Int32)), .unset, .unset] [(.int (0 : Int32))]))
          refine Go.of (fun _ q => XS.ifYes X42.here hx rfl (pc0 := 243) (pc' := 251) rfl (hb hby at_243) rfl ((if0 _ _).trans (teq rfl).1) (by decide) (by decide) q) ?_
          show Go _ _ _ _ _ _ _ (T42.setTop (mkF m 251 #[.val (.int x1), .val (.int x2), .val (.int x3), .val (.int x4), .val (.int x5), .val (.long x6), .second, .val (.ref b1), .val (.ref s1), .val (.ref b2), .val (.ref s2), .val (.ref b3), .val (.ref s3), .val (.ref n1), .val (.ref n2), .val (.int (1 : Int32)), .val (.int (0 : Int32)), .val zJ38_0, .val zJ39_0, .val (.ref a), .val (.int (1 : Int32)), .unset, .unset] []))
          refine Go.of (fun _ q => XS.iload X42.here hx rfl (hb hby at_251) rfl q) ?_
          show Go _ _ _ _ _ _ _ (T42.setTop (mkF m 253 #[.val (.int x1), .val (.int x2), .val (.int x3), .val (.int x4), .val (.int x5), .val (.long x6), .second, .val (.ref b1), .val (.ref s1), .val (.ref b2), .val (.ref s2), .val (.ref b3), .val (.ref s3), .val (.ref n1), .val (.ref n2), .val (.int (1 : Int32)), .val (.int (0 : Int32)), .val zJ38_0, .val zJ39_0, .val (.ref a), .val (.int (1 : Int32)), .unset, .unset] [(.int (1 : Int32))]))
          refine Go.of (fun _ q => XS.ifNo X42.here hx rfl (hb hby at_253) rfl ((if0 _ _).trans (feq (by decide)).1) q) ?_
          show Go _ _ _ _ _ _ _ (T42.setTop (mkF m 256 #[.val (.int x1), .val (.int x2), .val (.int x3), .val (.int x4), .val (.int x5), .val (.long x6), .second, .val (.ref b1), .val (.ref s1), .val (.ref b2), .val (.ref s2), .val (.ref b3), .val (.ref s3), .val (.ref n1), .val (.ref n2), .val (.int (1 : Int32)), .val (.int (0 : Int32)), .val zJ38_0, .val zJ39_0, .val (.ref a), .val (.int (1 : Int32)), .unset, .unset] []))
          refine Go.of (fun _ q => XS.aload X42.here hx rfl (hb hby at_256) rfl rfl q) ?_
          show Go _ _ _ _ _ _ _ (T42.setTop (mkF m 258 #[.val (.int x1), .val (.int x2), .val (.int x3), .val (.int x4), .val (.int x5), .val (.long x6), .second, .val (.ref b1), .val (.ref s1), .val (.ref b2), .val (.ref s2), .val (.ref b3), .val (.ref s3), .val (.ref n1), .val (.ref n2), .val (.int (1 : Int32)), .val (.int (0 : Int32)), .val zJ38_0, .val zJ39_0, .val (.ref a), .val (.int (1 : Int32)), .unset, .unset] [(.ref s1)]))
          refine Go.of (fun _ q => XS.goto X42.here hx rfl (pc0 := 258) (pc' := 262) rfl (hb hby at_258) (by decide) (by decide) q) ?_
          show Go _ _ _ _ _ _ _ (T42.setTop (mkF m 262 #[.val (.int x1), .val (.int x2), .val (.int x3), .val (.int x4), .val (.int x5), .val (.long x6), .second, .val (.ref b1), .val (.ref s1), .val (.ref b2), .val (.ref s2), .val (.ref b3), .val (.ref s3), .val (.ref n1), .val (.ref n2), .val (.int (1 : Int32)), .val (.int (0 : Int32)), .val zJ38_0, .val zJ39_0, .val (.ref a), .val (.int (1 : Int32)), .unset, .unset] [(.ref s1)]))
          refine Go.of (fun _ q => XS.astore X42.here hx rfl (hb hby at_262) rfl rfl (l' := #[.val (.int x1), .val (.int x2), .val (.int x3), .val (.int x4), .val (.int x5), .val (.long x6), .second, .val (.ref b1), .val (.ref s1), .val (.ref b2), .val (.ref s2), .val (.ref b3), .val (.ref s3), .val (.ref n1), .val (.ref n2), .val (.int (1 : Int32)), .val (.int (0 : Int32)), .val zJ38_0, .val zJ39_0, .val (.ref a), .val (.int (1 : Int32)), .val (.ref s1), .unset]) rfl q) ?_
          show Go _ _ _ _ _ _ _ (T42.setTop (mkF m 264 #[.val (.int x1), .val (.int x2), .val (.int x3), .val (.int x4), .val (.int x5), .val (.long x6), .second, .val (.ref b1), .val (.ref s1), .val (.ref b2), .val (.ref s2), .val (.ref b3), .val (.ref s3), .val (.ref n1), .val (.ref n2), .val (.int (1 : Int32)), .val (.int (0 : Int32)), .val zJ38_0, .val zJ39_0, .val (.ref a), .val (.int (1 : Int32)), .val (.ref s1), .unset] []))
          refine Go.of (fun _ q => XS.iload X42.here hx rfl (hb hby at_264) rfl q) ?_
          show Go _ _ _ _ _ _ _ (T42.setTop (mkF m 266 #[.val (.int x1), .val (.int x2), .val (.int x3), .val (.int x4), .val (.int x5), .val (.long x6), .second, .val (.ref b1), .val (.ref s1), .val (.ref b2), .val (.ref s2), .val (.ref b3), .val (.ref s3), .val (.ref n1), .val (.ref n2), .val (.int (1 : Int32)), .val (.int (0 : Int32)), .val zJ38_0, .val zJ39_0, .val (.ref a), .val (.int (1 : Int32)), .val (.ref s1), .unset] [(.int (0 : Int32))]))
          refine Go.of (fun _ q => XS.ifYes X42.here hx rfl (pc0 := 266) (pc' := 274) rfl (hb hby at_266) rfl ((if0 _ _).trans (teq rfl).1) (by decide) (by decide) q) ?_
          show Go _ _ _ _ _ _ _ (T42.setTop (mkF m 274 #[.val (.int x1), .val (.int x2), .val (.int x3), .val (.int x4), .val (.int x5), .val (.long x6), .second, .val (.ref b1), .val (.ref s1), .val (.ref b2), .val (.ref s2), .val (.ref b3), .val (.ref s3), .val (.ref n1), .val (.ref n2), .val (.int (1 : Int32)), .val (.int (0 : Int32)), .val zJ38_0, .val zJ39_0, .val (.ref a), .val (.int (1 : Int32)), .val (.ref s1), .unset] []))
          refine Go.of (fun _ q => XS.iload X42.here hx rfl (hb hby at_274) rfl q) ?_
          show Go _ _ _ _ _ _ _ (T42.setTop (mkF m 276 #[.val (.int x1), .val (.int x2), .val (.int x3), .val (.int x4), .val (.int x5), .val (.long x6), .second, .val (.ref b1), .val (.ref s1), .val (.ref b2), .val (.ref s2), .val (.ref b3), .val (.ref s3), .val (.ref n1), .val (.ref n2), .val (.int (1 : Int32)), .val (.int (0 : Int32)), .val zJ38_0, .val zJ39_0, .val (.ref a), .val (.int (1 : Int32)), .val (.ref s1), .unset] [(.int (1 : Int32))]))
          refine Go.of (fun _ q => XS.ifNo X42.here hx rfl (hb hby at_276) rfl ((if0 _ _).trans (feq (by decide)).1) q) ?_
          show Go _ _ _ _ _ _ _ (T42.setTop (mkF m 279 #[.val (.int x1), .val (.int x2), .val (.int x3), .val (.int x4), .val (.int x5), .val (.long x6), .second, .val (.ref b1), .val (.ref s1), .val (.ref b2), .val (.ref s2), .val (.ref b3), .val (.ref s3), .val (.ref n1), .val (.ref n2), .val (.int (1 : Int32)), .val (.int (0 : Int32)), .val zJ38_0, .val zJ39_0, .val (.ref a), .val (.int (1 : Int32)), .val (.ref s1), .unset] []))
          refine Go.of (fun _ q => XS.aload X42.here hx rfl (hb hby at_279) rfl rfl q) ?_
          show Go _ _ _ _ _ _ _ (T42.setTop (mkF m 281 #[.val (.int x1), .val (.int x2), .val (.int x3), .val (.int x4), .val (.int x5), .val (.long x6), .second, .val (.ref b1), .val (.ref s1), .val (.ref b2), .val (.ref s2), .val (.ref b3), .val (.ref s3), .val (.ref n1), .val (.ref n2), .val (.int (1 : Int32)), .val (.int (0 : Int32)), .val zJ38_0, .val zJ39_0, .val (.ref a), .val (.int (1 : Int32)), .val (.ref s1), .unset] [(.ref n1)]))
          refine Go.of (fun _ q => XS.goto X42.here hx rfl (pc0 := 281) (pc' := 285) rfl (hb hby at_281) (by decide) (by decide) q) ?_
          show Go _ _ _ _ _ _ _ (T42.setTop (mkF m 285 #[.val (.int x1), .val (.int x2), .val (.int x3), .val (.int x4), .val (.int x5), .val (.long x6), .second, .val (.ref b1), .val (.ref s1), .val (.ref b2), .val (.ref s2), .val (.ref b3), .val (.ref s3), .val (.ref n1), .val (.ref n2), .val (.int (1 : Int32)), .val (.int (0 : Int32)), .val zJ38_0, .val zJ39_0, .val (.ref a), .val (.int (1 : Int32)), .val (.ref s1), .unset] [(.ref n1)]))
          refine Go.of (fun _ q => XS.astore X42.here hx rfl (hb hby at_285) rfl rfl (l' := #[.val (.int x1), .val (.int x2), .val (.int x3), .val (.int x4), .val (.int x5), .val (.long x6), .second, .val (.ref b1), .val (.ref s1), .val (.ref b2), .val (.ref s2), .val (.ref b3), .val (.ref s3), .val (.ref n1), .val (.ref n2), .val (.int (1 : Int32)), .val (.int (0 : Int32)), .val zJ38_0, .val zJ39_0, .val (.ref a), .val (.int (1 : Int32)), .val (.ref s1), .val (.ref n1)]) rfl q) ?_
          show Go _ _ _ _ _ _ _ (T42.setTop (mkF m 287 #[.val (.int x1), .val (.int x2), .val (.int x3), .val (.int x4), .val (.int x5), .val (.long x6), .second, .val (.ref b1), .val (.ref s1), .val (.ref b2), .val (.ref s2), .val (.ref b3), .val (.ref s3), .val (.ref n1), .val (.ref n2), .val (.int (1 : Int32)), .val (.int (0 : Int32)), .val zJ38_0, .val zJ39_0, .val (.ref a), .val (.int (1 : Int32)), .val (.ref s1), .val (.ref n1)] []))
          refine Go.of (fun _ q => XS.aload X42.here hx rfl (hb hby at_287) rfl rfl q) ?_
          show Go _ _ _ _ _ _ _ (T42.setTop (mkF m 289 #[.val (.int x1), .val (.int x2), .val (.int x3), .val (.int x4), .val (.int x5), .val (.long x6), .second, .val (.ref b1), .val (.ref s1), .val (.ref b2), .val (.ref s2), .val (.ref b3), .val (.ref s3), .val (.ref n1), .val (.ref n2), .val (.int (1 : Int32)), .val (.int (0 : Int32)), .val zJ38_0, .val zJ39_0, .val (.ref a), .val (.int (1 : Int32)), .val (.ref s1), .val (.ref n1)] [(.ref a)]))
          refine Go.virtual X42 hx hZ (y := (⟨"com/example/lane/lane/AccessRecord", "attempts", "()I"⟩ : MethodName)) (z := (⟨"com/example/lane/lane/AccessRecord", "attempts", "()I"⟩ : MethodName)) (a := a) (argsL := []) hown (hw _ (List.mem_of_getElem? (i := 57) rfl)) (hw _ (List.mem_of_getElem? (i := 58) rfl)) (notFace_of_selects (args := #[]) (mvT hZ (hw _ (List.mem_of_getElem? (i := 60) rfl)))) (hw _ (List.mem_of_getElem? (i := 60) rfl)) (hw _ (List.mem_of_getElem? (i := 59) rfl)) (hw _ (List.mem_of_getElem? (i := 48) rfl)) (hw _ (List.mem_of_getElem? (i := 61) rfl)) (by decide) 0 rfl E_a (rm10 l Z a0 hw a ((0 : Int32) + (1 : Int32)) T42.heap n0 Zs F_a_attempts) (by decide) (by decide) (by decide) (by decide) (g := (mkF m 289 #[.val (.int x1), .val (.int x2), .val (.int x3), .val (.int x4), .val (.int x5), .val (.long x6), .second, .val (.ref b1), .val (.ref s1), .val (.ref b2), .val (.ref s2), .val (.ref b3), .val (.ref s3), .val (.ref n1), .val (.ref n2), .val (.int (1 : Int32)), .val (.int (0 : Int32)), .val zJ38_0, .val zJ39_0, .val (.ref a), .val (.int (1 : Int32)), .val (.ref s1), .val (.ref n1)] [(.ref a)])) rfl (by rw [hml]; rfl) (rest := []) (lenOf pd8 rfl) rfl (by show 2 * 0 + _ ≤ _; exact Nat.le_of_eq rfl) (hb hby at_289) ?_
          intro T43 v43 L43 X43 q43
          obtain ⟨rfl, Nq43, e43⟩ := q43
          have N43 := Fr.app N42 Nq43
          show Go _ _ _ _ _ _ _ (T43.setTop (mkF m 292 #[.val (.int x1), .val (.int x2), .val (.int x3), .val (.int x4), .val (.int x5), .val (.long x6), .second, .val (.ref b1), .val (.ref s1), .val (.ref b2), .val (.ref s2), .val (.ref b3), .val (.ref s3), .val (.ref n1), .val (.ref n2), .val (.int (1 : Int32)), .val (.int (0 : Int32)), .val zJ38_0, .val zJ39_0, .val (.ref a), .val (.int (1 : Int32)), .val (.ref s1), .val (.ref n1)] [(.int ((0 : Int32) + (1 : Int32)))]))
          refine Go.of (fun _ q => XS.iload X43.here hx rfl (hb hby at_292) rfl q) ?_
          show Go _ _ _ _ _ _ _ (T43.setTop (mkF m 294 #[.val (.int x1), .val (.int x2), .val (.int x3), .val (.int x4), .val (.int x5), .val (.long x6), .second, .val (.ref b1), .val (.ref s1), .val (.ref b2), .val (.ref s2), .val (.ref b3), .val (.ref s3), .val (.ref n1), .val (.ref n2), .val (.int (1 : Int32)), .val (.int (0 : Int32)), .val zJ38_0, .val zJ39_0, .val (.ref a), .val (.int (1 : Int32)), .val (.ref s1), .val (.ref n1)] [(.int (1 : Int32)), (.int ((0 : Int32) + (1 : Int32)))]))
          have J48 : ∀ (TJ48 : State) (lJ48 : List Loc) (zJ48_0 : Int32), Stand p l e room_1 s m #[(.int x1), (.int x2), (.int x3), (.int x4), (.int x5), (.long x6)] below meth c TJ48 lJ48 12 42 → TJ48.heap = T42.heap → Fr n0 lJ48 → zJ48_0 = (if ((0 : Int32) + (1 : Int32)) = (1 : Int32) then (1 : Int32) else (0 : Int32)) → Go p e below s room_1.cells room_1.slots (Q0 Z x1 x2 x3 x4 x5 x6 cs h0 n0) (TJ48.setTop (mkF m 341 #[.val (.int x1), .val (.int x2), .val (.int x3), .val (.int x4), .val (.int x5), .val (.long x6), .second, .val (.ref b1), .val (.ref s1), .val (.ref b2), .val (.ref s2), .val (.ref b3), .val (.ref s3), .val (.ref n1), .val (.ref n2), .val (.int (1 : Int32)), .val (.int (0 : Int32)), .val zJ38_0, .val zJ39_0, .val (.ref a), .val (.int (1 : Int32)), .val (.ref s1), .val (.ref n1)] [(.int zJ48_0)])) := by
            intro TJ48 lJ48 zJ48_0 XJ48 eJ48 NJ48 hzJ48_0
            subst hzJ48_0
            show Go _ _ _ _ _ _ _ (TJ48.setTop (mkF m 341 #[.val (.int x1), .val (.int x2), .val (.int x3), .val (.int x4), .val (.int x5), .val (.long x6), .second, .val (.ref b1), .val (.ref s1), .val (.ref b2), .val (.ref s2), .val (.ref b3), .val (.ref s3), .val (.ref n1), .val (.ref n2), .val (.int (1 : Int32)), .val (.int (0 : Int32)), .val zJ38_0, .val zJ39_0, .val (.ref a), .val (.int (1 : Int32)), .val (.ref s1), .val (.ref n1)] [(.int (if ((0 : Int32) + (1 : Int32)) = (1 : Int32) then (1 : Int32) else (0 : Int32)))]))
            refine Go.retN XJ48 hx hlk (t := .boolean) hret (by simp) (hb hby at_341) (by first | rfl | (split <;> rfl) | (repeat' split) <;> rfl) (by decide) (by decide) ?_
            rw [eJ48]
            exact ⟨rfl, NJ48⟩
          by_cases c294 : ((0 : Int32) + (1 : Int32)) = (1 : Int32)
          · refine Go.of (fun _ q => XS.icmpNo X43.here hx rfl (hb hby at_294) rfl (teq c294).2 q) ?_
            show Go _ _ _ _ _ _ _ (T43.setTop (mkF m 297 #[.val (.int x1), .val (.int x2), .val (.int x3), .val (.int x4), .val (.int x5), .val (.long x6), .second, .val (.ref b1), .val (.ref s1), .val (.ref b2), .val (.ref s2), .val (.ref b3), .val (.ref s3), .val (.ref n1), .val (.ref n2), .val (.int (1 : Int32)), .val (.int (0 : Int32)), .val zJ38_0, .val zJ39_0, .val (.ref a), .val (.int (1 : Int32)), .val (.ref s1), .val (.ref n1)] []))
            refine Go.of (fun _ q => XS.aload X43.here hx rfl (hb hby at_297) rfl rfl q) ?_
            show Go _ _ _ _ _ _ _ (T43.setTop (mkF m 299 #[.val (.int x1), .val (.int x2), .val (.int x3), .val (.int x4), .val (.int x5), .val (.long x6), .second, .val (.ref b1), .val (.ref s1), .val (.ref b2), .val (.ref s2), .val (.ref b3), .val (.ref s3), .val (.ref n1), .val (.ref n2), .val (.int (1 : Int32)), .val (.int (0 : Int32)), .val zJ38_0, .val zJ39_0, .val (.ref a), .val (.int (1 : Int32)), .val (.ref s1), .val (.ref n1)] [(.ref a)]))
            refine Go.virtual X43 hx hZ (y := (⟨"com/example/lane/lane/AccessRecord", "upstream", "()Ljava/lang/String;"⟩ : MethodName)) (z := (⟨"com/example/lane/lane/AccessRecord", "upstream", "()Ljava/lang/String;"⟩ : MethodName)) (a := a) (argsL := []) hown (hw _ (List.mem_of_getElem? (i := 64) rfl)) (hw _ (List.mem_of_getElem? (i := 65) rfl)) (notFace_of_selects (args := #[]) (mvT hZ (hw _ (List.mem_of_getElem? (i := 67) rfl)))) (hw _ (List.mem_of_getElem? (i := 67) rfl)) (hw _ (List.mem_of_getElem? (i := 66) rfl)) (hw _ (List.mem_of_getElem? (i := 48) rfl)) (hw _ (List.mem_of_getElem? (i := 68) rfl)) (by decide) 0 e43 E_a (rm11 l Z a0 hw a (.ref s1) rfl T42.heap n0 Zs F_a_upstream) (by decide) (by decide) (by decide) (by decide) (g := (mkF m 299 #[.val (.int x1), .val (.int x2), .val (.int x3), .val (.int x4), .val (.int x5), .val (.long x6), .second, .val (.ref b1), .val (.ref s1), .val (.ref b2), .val (.ref s2), .val (.ref b3), .val (.ref s3), .val (.ref n1), .val (.ref n2), .val (.int (1 : Int32)), .val (.int (0 : Int32)), .val zJ38_0, .val zJ39_0, .val (.ref a), .val (.int (1 : Int32)), .val (.ref s1), .val (.ref n1)] [(.ref a)])) rfl (by rw [hml]; rfl) (rest := []) (lenOf pd9 rfl) rfl (by show 2 * 0 + _ ≤ _; exact Nat.le_of_eq rfl) (hb hby at_299) ?_
            intro T44 v44 L44 X44 q44
            obtain ⟨rfl, Nq44, e44⟩ := q44
            have N44 := Fr.app N43 Nq44
            show Go _ _ _ _ _ _ _ (T44.setTop (mkF m 302 #[.val (.int x1), .val (.int x2), .val (.int x3), .val (.int x4), .val (.int x5), .val (.long x6), .second, .val (.ref b1), .val (.ref s1), .val (.ref b2), .val (.ref s2), .val (.ref b3), .val (.ref s3), .val (.ref n1), .val (.ref n2), .val (.int (1 : Int32)), .val (.int (0 : Int32)), .val zJ38_0, .val zJ39_0, .val (.ref a), .val (.int (1 : Int32)), .val (.ref s1), .val (.ref n1)] [(.ref s1)]))
            refine Go.of (fun _ q => XS.aload X44.here hx rfl (hb hby at_302) rfl rfl q) ?_
            show Go _ _ _ _ _ _ _ (T44.setTop (mkF m 304 #[.val (.int x1), .val (.int x2), .val (.int x3), .val (.int x4), .val (.int x5), .val (.long x6), .second, .val (.ref b1), .val (.ref s1), .val (.ref b2), .val (.ref s2), .val (.ref b3), .val (.ref s3), .val (.ref n1), .val (.ref n2), .val (.int (1 : Int32)), .val (.int (0 : Int32)), .val zJ38_0, .val zJ39_0, .val (.ref a), .val (.int (1 : Int32)), .val (.ref s1), .val (.ref n1)] [(.ref s1), (.ref s1)]))
            refine Go.of (fun _ q => Jvm.RoadKit.acmp (g := (mkF m 304 #[.val (.int x1), .val (.int x2), .val (.int x3), .val (.int x4), .val (.int x5), .val (.long x6), .second, .val (.ref b1), .val (.ref s1), .val (.ref b2), .val (.ref s2), .val (.ref b3), .val (.ref s3), .val (.ref n1), .val (.ref n2), .val (.int (1 : Int32)), .val (.int (0 : Int32)), .val zJ38_0, .val zJ39_0, .val (.ref a), .val (.int (1 : Int32)), .val (.ref s1), .val (.ref n1)] [(.ref s1), (.ref s1)])) X44 hx rfl rfl rfl (pc0 := 304) (pc' := 307) (same := true) rfl (hb hby at_304) rfl (decide_eq_true (congrArg Value.ref rfl)) (by decide) (by decide) q) ?_
            show Go _ _ _ _ _ _ _ (T44.setTop (mkF m 307 #[.val (.int x1), .val (.int x2), .val (.int x3), .val (.int x4), .val (.int x5), .val (.long x6), .second, .val (.ref b1), .val (.ref s1), .val (.ref b2), .val (.ref s2), .val (.ref b3), .val (.ref s3), .val (.ref n1), .val (.ref n2), .val (.int (1 : Int32)), .val (.int (0 : Int32)), .val zJ38_0, .val zJ39_0, .val (.ref a), .val (.int (1 : Int32)), .val (.ref s1), .val (.ref n1)] []))
            refine Go.of (fun _ q => XS.aload X44.here hx rfl (hb hby at_307) rfl rfl q) ?_
            show Go _ _ _ _ _ _ _ (T44.setTop (mkF m 309 #[.val (.int x1), .val (.int x2), .val (.int x3), .val (.int x4), .val (.int x5), .val (.long x6), .second, .val (.ref b1), .val (.ref s1), .val (.ref b2), .val (.ref s2), .val (.ref b3), .val (.ref s3), .val (.ref n1), .val (.ref n2), .val (.int (1 : Int32)), .val (.int (0 : Int32)), .val zJ38_0, .val zJ39_0, .val (.ref a), .val (.int (1 : Int32)), .val (.ref s1), .val (.ref n1)] [(.ref a)]))
            refine Go.virtual X44 hx hZ (y := (⟨"com/example/lane/lane/AccessRecord", "node", "()Lcom/example/lane/lane/config/HostPort;"⟩ : MethodName)) (z := (⟨"com/example/lane/lane/AccessRecord", "node", "()Lcom/example/lane/lane/config/HostPort;"⟩ : MethodName)) (a := a) (argsL := []) hown (hw _ (List.mem_of_getElem? (i := 71) rfl)) (hw _ (List.mem_of_getElem? (i := 72) rfl)) (notFace_of_selects (args := #[]) (mvT hZ (hw _ (List.mem_of_getElem? (i := 74) rfl)))) (hw _ (List.mem_of_getElem? (i := 74) rfl)) (hw _ (List.mem_of_getElem? (i := 73) rfl)) (hw _ (List.mem_of_getElem? (i := 48) rfl)) (hw _ (List.mem_of_getElem? (i := 75) rfl)) (by decide) 0 e44 E_a (rm12 l Z a0 hw a (.ref n1) rfl T42.heap n0 Zs F_a_node) (by decide) (by decide) (by decide) (by decide) (g := (mkF m 309 #[.val (.int x1), .val (.int x2), .val (.int x3), .val (.int x4), .val (.int x5), .val (.long x6), .second, .val (.ref b1), .val (.ref s1), .val (.ref b2), .val (.ref s2), .val (.ref b3), .val (.ref s3), .val (.ref n1), .val (.ref n2), .val (.int (1 : Int32)), .val (.int (0 : Int32)), .val zJ38_0, .val zJ39_0, .val (.ref a), .val (.int (1 : Int32)), .val (.ref s1), .val (.ref n1)] [(.ref a)])) rfl (by rw [hml]; rfl) (rest := []) (lenOf pd10 rfl) rfl (by show 2 * 0 + _ ≤ _; exact Nat.le_of_eq rfl) (hb hby at_309) ?_
            intro T45 v45 L45 X45 q45
            obtain ⟨rfl, Nq45, e45⟩ := q45
            have N45 := Fr.app N44 Nq45
            show Go _ _ _ _ _ _ _ (T45.setTop (mkF m 312 #[.val (.int x1), .val (.int x2), .val (.int x3), .val (.int x4), .val (.int x5), .val (.long x6), .second, .val (.ref b1), .val (.ref s1), .val (.ref b2), .val (.ref s2), .val (.ref b3), .val (.ref s3), .val (.ref n1), .val (.ref n2), .val (.int (1 : Int32)), .val (.int (0 : Int32)), .val zJ38_0, .val zJ39_0, .val (.ref a), .val (.int (1 : Int32)), .val (.ref s1), .val (.ref n1)] [(.ref n1)]))
            refine Go.of (fun _ q => XS.aload X45.here hx rfl (hb hby at_312) rfl rfl q) ?_
            show Go _ _ _ _ _ _ _ (T45.setTop (mkF m 314 #[.val (.int x1), .val (.int x2), .val (.int x3), .val (.int x4), .val (.int x5), .val (.long x6), .second, .val (.ref b1), .val (.ref s1), .val (.ref b2), .val (.ref s2), .val (.ref b3), .val (.ref s3), .val (.ref n1), .val (.ref n2), .val (.int (1 : Int32)), .val (.int (0 : Int32)), .val zJ38_0, .val zJ39_0, .val (.ref a), .val (.int (1 : Int32)), .val (.ref s1), .val (.ref n1)] [(.ref n1), (.ref n1)]))
            refine Go.of (fun _ q => Jvm.RoadKit.acmp (g := (mkF m 314 #[.val (.int x1), .val (.int x2), .val (.int x3), .val (.int x4), .val (.int x5), .val (.long x6), .second, .val (.ref b1), .val (.ref s1), .val (.ref b2), .val (.ref s2), .val (.ref b3), .val (.ref s3), .val (.ref n1), .val (.ref n2), .val (.int (1 : Int32)), .val (.int (0 : Int32)), .val zJ38_0, .val zJ39_0, .val (.ref a), .val (.int (1 : Int32)), .val (.ref s1), .val (.ref n1)] [(.ref n1), (.ref n1)])) X45 hx rfl rfl rfl (pc0 := 314) (pc' := 317) (same := true) rfl (hb hby at_314) rfl (decide_eq_true (congrArg Value.ref rfl)) (by decide) (by decide) q) ?_
            show Go _ _ _ _ _ _ _ (T45.setTop (mkF m 317 #[.val (.int x1), .val (.int x2), .val (.int x3), .val (.int x4), .val (.int x5), .val (.long x6), .second, .val (.ref b1), .val (.ref s1), .val (.ref b2), .val (.ref s2), .val (.ref b3), .val (.ref s3), .val (.ref n1), .val (.ref n2), .val (.int (1 : Int32)), .val (.int (0 : Int32)), .val zJ38_0, .val zJ39_0, .val (.ref a), .val (.int (1 : Int32)), .val (.ref s1), .val (.ref n1)] []))
            refine Go.of (fun _ q => XS.aload X45.here hx rfl (hb hby at_317) rfl rfl q) ?_
            show Go _ _ _ _ _ _ _ (T45.setTop (mkF m 319 #[.val (.int x1), .val (.int x2), .val (.int x3), .val (.int x4), .val (.int x5), .val (.long x6), .second, .val (.ref b1), .val (.ref s1), .val (.ref b2), .val (.ref s2), .val (.ref b3), .val (.ref s3), .val (.ref n1), .val (.ref n2), .val (.int (1 : Int32)), .val (.int (0 : Int32)), .val zJ38_0, .val zJ39_0, .val (.ref a), .val (.int (1 : Int32)), .val (.ref s1), .val (.ref n1)] [(.ref a)]))
            refine Go.virtual X45 hx hZ (y := (⟨"com/example/lane/lane/AccessRecord", "status", "()I"⟩ : MethodName)) (z := (⟨"com/example/lane/lane/AccessRecord", "status", "()I"⟩ : MethodName)) (a := a) (argsL := []) hown (hw _ (List.mem_of_getElem? (i := 78) rfl)) (hw _ (List.mem_of_getElem? (i := 79) rfl)) (notFace_of_selects (args := #[]) (mvT hZ (hw _ (List.mem_of_getElem? (i := 81) rfl)))) (hw _ (List.mem_of_getElem? (i := 81) rfl)) (hw _ (List.mem_of_getElem? (i := 80) rfl)) (hw _ (List.mem_of_getElem? (i := 48) rfl)) (hw _ (List.mem_of_getElem? (i := 82) rfl)) (by decide) 0 e45 E_a (rm13 l Z a0 hw a T42.heap n0 Zs F_a_status) (by decide) (by decide) (by decide) (by decide) (g := (mkF m 319 #[.val (.int x1), .val (.int x2), .val (.int x3), .val (.int x4), .val (.int x5), .val (.long x6), .second, .val (.ref b1), .val (.ref s1), .val (.ref b2), .val (.ref s2), .val (.ref b3), .val (.ref s3), .val (.ref n1), .val (.ref n2), .val (.int (1 : Int32)), .val (.int (0 : Int32)), .val zJ38_0, .val zJ39_0, .val (.ref a), .val (.int (1 : Int32)), .val (.ref s1), .val (.ref n1)] [(.ref a)])) rfl (by rw [hml]; rfl) (rest := []) (lenOf pd8 rfl) rfl (by show 2 * 0 + _ ≤ _; exact Nat.le_of_eq rfl) (hb hby at_319) ?_
            intro T46 v46 L46 X46 q46
            obtain ⟨rfl, Nq46, e46⟩ := q46
            have N46 := Fr.app N45 Nq46
            show Go _ _ _ _ _ _ _ (T46.setTop (mkF m 322 #[.val (.int x1), .val (.int x2), .val (.int x3), .val (.int x4), .val (.int x5), .val (.long x6), .second, .val (.ref b1), .val (.ref s1), .val (.ref b2), .val (.ref s2), .val (.ref b3), .val (.ref s3), .val (.ref n1), .val (.ref n2), .val (.int (1 : Int32)), .val (.int (0 : Int32)), .val zJ38_0, .val zJ39_0, .val (.ref a), .val (.int (1 : Int32)), .val (.ref s1), .val (.ref n1)] [(.int (499 : Int32))]))
            refine Go.of (fun _ q => XS.sipush X46.here hx rfl (hb hby at_322) q) ?_
            show Go _ _ _ _ _ _ _ (T46.setTop (mkF m 325 #[.val (.int x1), .val (.int x2), .val (.int x3), .val (.int x4), .val (.int x5), .val (.long x6), .second, .val (.ref b1), .val (.ref s1), .val (.ref b2), .val (.ref s2), .val (.ref b3), .val (.ref s3), .val (.ref n1), .val (.ref n2), .val (.int (1 : Int32)), .val (.int (0 : Int32)), .val zJ38_0, .val zJ39_0, .val (.ref a), .val (.int (1 : Int32)), .val (.ref s1), .val (.ref n1)] [(.int (499 : Int32)), (.int (499 : Int32))]))
            refine Go.of (fun _ q => XS.icmpNo X46.here hx rfl (hb hby at_325) rfl (teq rfl).2 q) ?_
            show Go _ _ _ _ _ _ _ (T46.setTop (mkF m 328 #[.val (.int x1), .val (.int x2), .val (.int x3), .val (.int x4), .val (.int x5), .val (.long x6), .second, .val (.ref b1), .val (.ref s1), .val (.ref b2), .val (.ref s2), .val (.ref b3), .val (.ref s3), .val (.ref n1), .val (.ref n2), .val (.int (1 : Int32)), .val (.int (0 : Int32)), .val zJ38_0, .val zJ39_0, .val (.ref a), .val (.int (1 : Int32)), .val (.ref s1), .val (.ref n1)] []))
            refine Go.of (fun _ q => XS.aload X46.here hx rfl (hb hby at_328) rfl rfl q) ?_
            show Go _ _ _ _ _ _ _ (T46.setTop (mkF m 330 #[.val (.int x1), .val (.int x2), .val (.int x3), .val (.int x4), .val (.int x5), .val (.long x6), .second, .val (.ref b1), .val (.ref s1), .val (.ref b2), .val (.ref s2), .val (.ref b3), .val (.ref s3), .val (.ref n1), .val (.ref n2), .val (.int (1 : Int32)), .val (.int (0 : Int32)), .val zJ38_0, .val zJ39_0, .val (.ref a), .val (.int (1 : Int32)), .val (.ref s1), .val (.ref n1)] [(.ref a)]))
            refine Go.virtual X46 hx hZ (y := (⟨"com/example/lane/lane/AccessRecord", "route", "()Ljava/lang/String;"⟩ : MethodName)) (z := (⟨"com/example/lane/lane/AccessRecord", "route", "()Ljava/lang/String;"⟩ : MethodName)) (a := a) (argsL := []) hown (hw _ (List.mem_of_getElem? (i := 85) rfl)) (hw _ (List.mem_of_getElem? (i := 86) rfl)) (notFace_of_selects (args := #[]) (mvT hZ (hw _ (List.mem_of_getElem? (i := 88) rfl)))) (hw _ (List.mem_of_getElem? (i := 88) rfl)) (hw _ (List.mem_of_getElem? (i := 87) rfl)) (hw _ (List.mem_of_getElem? (i := 48) rfl)) (hw _ (List.mem_of_getElem? (i := 89) rfl)) (by decide) 0 e46 E_a (rm14 l Z a0 hw a T42.heap n0 Zs F_a_route) (by decide) (by decide) (by decide) (by decide) (g := (mkF m 330 #[.val (.int x1), .val (.int x2), .val (.int x3), .val (.int x4), .val (.int x5), .val (.long x6), .second, .val (.ref b1), .val (.ref s1), .val (.ref b2), .val (.ref s2), .val (.ref b3), .val (.ref s3), .val (.ref n1), .val (.ref n2), .val (.int (1 : Int32)), .val (.int (0 : Int32)), .val zJ38_0, .val zJ39_0, .val (.ref a), .val (.int (1 : Int32)), .val (.ref s1), .val (.ref n1)] [(.ref a)])) rfl (by rw [hml]; rfl) (rest := []) (lenOf pd9 rfl) rfl (by show 2 * 0 + _ ≤ _; exact Nat.le_of_eq rfl) (hb hby at_330) ?_
            intro T47 v47 L47 X47 q47
            obtain ⟨rfl, Nq47, e47⟩ := q47
            have N47 := Fr.app N46 Nq47
            show Go _ _ _ _ _ _ _ (T47.setTop (mkF m 333 #[.val (.int x1), .val (.int x2), .val (.int x3), .val (.int x4), .val (.int x5), .val (.long x6), .second, .val (.ref b1), .val (.ref s1), .val (.ref b2), .val (.ref s2), .val (.ref b3), .val (.ref s3), .val (.ref n1), .val (.ref n2), .val (.int (1 : Int32)), .val (.int (0 : Int32)), .val zJ38_0, .val zJ39_0, .val (.ref a), .val (.int (1 : Int32)), .val (.ref s1), .val (.ref n1)] [.null]))
            refine Go.of (fun _ q => XS.ifnonnullNo X47.here hx rfl (hb hby at_333) rfl q) ?_
            show Go _ _ _ _ _ _ _ (T47.setTop (mkF m 336 #[.val (.int x1), .val (.int x2), .val (.int x3), .val (.int x4), .val (.int x5), .val (.long x6), .second, .val (.ref b1), .val (.ref s1), .val (.ref b2), .val (.ref s2), .val (.ref b3), .val (.ref s3), .val (.ref n1), .val (.ref n2), .val (.int (1 : Int32)), .val (.int (0 : Int32)), .val zJ38_0, .val zJ39_0, .val (.ref a), .val (.int (1 : Int32)), .val (.ref s1), .val (.ref n1)] []))
            refine Go.of (fun _ q => XS.iconst X47.here hx rfl (hb hby at_336) q) ?_
            show Go _ _ _ _ _ _ _ (T47.setTop (mkF m 337 #[.val (.int x1), .val (.int x2), .val (.int x3), .val (.int x4), .val (.int x5), .val (.long x6), .second, .val (.ref b1), .val (.ref s1), .val (.ref b2), .val (.ref s2), .val (.ref b3), .val (.ref s3), .val (.ref n1), .val (.ref n2), .val (.int (1 : Int32)), .val (.int (0 : Int32)), .val zJ38_0, .val zJ39_0, .val (.ref a), .val (.int (1 : Int32)), .val (.ref s1), .val (.ref n1)] [(.int (1 : Int32))]))
            refine Go.of (fun _ q => XS.goto X47.here hx rfl (pc0 := 337) (pc' := 341) rfl (hb hby at_337) (by decide) (by decide) q) ?_
            show Go _ _ _ _ _ _ _ (T47.setTop (mkF m 341 #[.val (.int x1), .val (.int x2), .val (.int x3), .val (.int x4), .val (.int x5), .val (.long x6), .second, .val (.ref b1), .val (.ref s1), .val (.ref b2), .val (.ref s2), .val (.ref b3), .val (.ref s3), .val (.ref n1), .val (.ref n2), .val (.int (1 : Int32)), .val (.int (0 : Int32)), .val zJ38_0, .val zJ39_0, .val (.ref a), .val (.int (1 : Int32)), .val (.ref s1), .val (.ref n1)] [(.int (1 : Int32))]))
            exact J48 T47 _ _ (pad X47 (by decide) (by decide)) e47 N47 (by rw [if_pos c294])
          · refine Go.of (fun _ q => XS.icmpYes X43.here hx rfl (pc0 := 294) (pc' := 340) rfl (hb hby at_294) rfl (feq c294).2 (by decide) (by decide) q) ?_
            show Go _ _ _ _ _ _ _ (T43.setTop (mkF m 340 #[.val (.int x1), .val (.int x2), .val (.int x3), .val (.int x4), .val (.int x5), .val (.long x6), .second, .val (.ref b1), .val (.ref s1), .val (.ref b2), .val (.ref s2), .val (.ref b3), .val (.ref s3), .val (.ref n1), .val (.ref n2), .val (.int (1 : Int32)), .val (.int (0 : Int32)), .val zJ38_0, .val zJ39_0, .val (.ref a), .val (.int (1 : Int32)), .val (.ref s1), .val (.ref n1)] []))
            refine Go.of (fun _ q => XS.iconst X43.here hx rfl (hb hby at_340) q) ?_
            show Go _ _ _ _ _ _ _ (T43.setTop (mkF m 341 #[.val (.int x1), .val (.int x2), .val (.int x3), .val (.int x4), .val (.int x5), .val (.long x6), .second, .val (.ref b1), .val (.ref s1), .val (.ref b2), .val (.ref s2), .val (.ref b3), .val (.ref s3), .val (.ref n1), .val (.ref n2), .val (.int (1 : Int32)), .val (.int (0 : Int32)), .val zJ38_0, .val zJ39_0, .val (.ref a), .val (.int (1 : Int32)), .val (.ref s1), .val (.ref n1)] [(.int (0 : Int32))]))
            exact J48 T43 _ _ (pad X43 (by decide) (by decide)) e43 N43 (by rw [if_neg c294])
        by_cases c166 : (x5 &&& (8 : Int32)) = (0 : Int32)
        · refine Go.of (fun _ q => XS.ifYes X17.here hx rfl (pc0 := 166) (pc' := 173) rfl (hb hby at_166) rfl ((if0 _ _).trans (teq c166).1) (by decide) (by decide) q) ?_
          show Go _ _ _ _ _ _ _ (T17.setTop (mkF m 173 #[.val (.int x1), .val (.int x2), .val (.int x3), .val (.int x4), .val (.int x5), .val (.long x6), .second, .val (.ref b1), .val (.ref s1), .val (.ref b2), .val (.ref s2), .val (.ref b3), .val (.ref s3), .val (.ref n1), .val (.ref n2), .val (.int (1 : Int32)), .val (.int (0 : Int32)), .val zJ38_0, .unset, .unset, .unset, .unset, .unset] []))
          refine Go.of (fun _ q => XS.aload X17.here hx rfl (hb hby at_173) rfl rfl q) ?_
          show Go _ _ _ _ _ _ _ (T17.setTop (mkF m 175 #[.val (.int x1), .val (.int x2), .val (.int x3), .val (.int x4), .val (.int x5), .val (.long x6), .second, .val (.ref b1), .val (.ref s1), .val (.ref b2), .val (.ref s2), .val (.ref b3), .val (.ref s3), .val (.ref n1), .val (.ref n2), .val (.int (1 : Int32)), .val (.int (0 : Int32)), .val zJ38_0, .unset, .unset, .unset, .unset, .unset] [(.ref n2)]))
          exact J39 _ (by rw [if_pos c166]) rfl
        · refine Go.of (fun _ q => XS.ifNo X17.here hx rfl (hb hby at_166) rfl ((if0 _ _).trans (feq c166).1) q) ?_
          show Go _ _ _ _ _ _ _ (T17.setTop (mkF m 169 #[.val (.int x1), .val (.int x2), .val (.int x3), .val (.int x4), .val (.int x5), .val (.long x6), .second, .val (.ref b1), .val (.ref s1), .val (.ref b2), .val (.ref s2), .val (.ref b3), .val (.ref s3), .val (.ref n1), .val (.ref n2), .val (.int (1 : Int32)), .val (.int (0 : Int32)), .val zJ38_0, .unset, .unset, .unset, .unset, .unset] []))
          refine Go.of (fun _ q => XS.aconstNull X17.here hx rfl (hb hby at_169) q) ?_
          show Go _ _ _ _ _ _ _ (T17.setTop (mkF m 170 #[.val (.int x1), .val (.int x2), .val (.int x3), .val (.int x4), .val (.int x5), .val (.long x6), .second, .val (.ref b1), .val (.ref s1), .val (.ref b2), .val (.ref s2), .val (.ref b3), .val (.ref s3), .val (.ref n1), .val (.ref n2), .val (.int (1 : Int32)), .val (.int (0 : Int32)), .val zJ38_0, .unset, .unset, .unset, .unset, .unset] [.null]))
          refine Go.of (fun _ q => XS.goto X17.here hx rfl (pc0 := 170) (pc' := 175) rfl (hb hby at_170) (by decide) (by decide) q) ?_
          show Go _ _ _ _ _ _ _ (T17.setTop (mkF m 175 #[.val (.int x1), .val (.int x2), .val (.int x3), .val (.int x4), .val (.int x5), .val (.long x6), .second, .val (.ref b1), .val (.ref s1), .val (.ref b2), .val (.ref s2), .val (.ref b3), .val (.ref s3), .val (.ref n1), .val (.ref n2), .val (.int (1 : Int32)), .val (.int (0 : Int32)), .val zJ38_0, .unset, .unset, .unset, .unset, .unset] [.null]))
          exact J39 _ (by rw [if_neg c166]) rfl
      by_cases c150 : (x5 &&& (4 : Int32)) = (0 : Int32)
      · refine Go.of (fun _ q => XS.ifYes X17.here hx rfl (pc0 := 150) (pc' := 157) rfl (hb hby at_150) rfl ((if0 _ _).trans (teq c150).1) (by decide) (by decide) q) ?_
        show Go _ _ _ _ _ _ _ (T17.setTop (mkF m 157 #[.val (.int x1), .val (.int x2), .val (.int x3), .val (.int x4), .val (.int x5), .val (.long x6), .second, .val (.ref b1), .val (.ref s1), .val (.ref b2), .val (.ref s2), .val (.ref b3), .val (.ref s3), .val (.ref n1), .val (.ref n2), .val (.int (1 : Int32)), .val (.int (0 : Int32)), .unset, .unset, .unset, .unset, .unset, .unset] []))
        refine Go.of (fun _ q => XS.aload X17.here hx rfl (hb hby at_157) rfl rfl q) ?_
        show Go _ _ _ _ _ _ _ (T17.setTop (mkF m 159 #[.val (.int x1), .val (.int x2), .val (.int x3), .val (.int x4), .val (.int x5), .val (.long x6), .second, .val (.ref b1), .val (.ref s1), .val (.ref b2), .val (.ref s2), .val (.ref b3), .val (.ref s3), .val (.ref n1), .val (.ref n2), .val (.int (1 : Int32)), .val (.int (0 : Int32)), .unset, .unset, .unset, .unset, .unset, .unset] [(.ref s2)]))
        exact J38 _ (by rw [if_pos c150]) rfl
      · refine Go.of (fun _ q => XS.ifNo X17.here hx rfl (hb hby at_150) rfl ((if0 _ _).trans (feq c150).1) q) ?_
        show Go _ _ _ _ _ _ _ (T17.setTop (mkF m 153 #[.val (.int x1), .val (.int x2), .val (.int x3), .val (.int x4), .val (.int x5), .val (.long x6), .second, .val (.ref b1), .val (.ref s1), .val (.ref b2), .val (.ref s2), .val (.ref b3), .val (.ref s3), .val (.ref n1), .val (.ref n2), .val (.int (1 : Int32)), .val (.int (0 : Int32)), .unset, .unset, .unset, .unset, .unset, .unset] []))
        refine Go.of (fun _ q => XS.aconstNull X17.here hx rfl (hb hby at_153) q) ?_
        show Go _ _ _ _ _ _ _ (T17.setTop (mkF m 154 #[.val (.int x1), .val (.int x2), .val (.int x3), .val (.int x4), .val (.int x5), .val (.long x6), .second, .val (.ref b1), .val (.ref s1), .val (.ref b2), .val (.ref s2), .val (.ref b3), .val (.ref s3), .val (.ref n1), .val (.ref n2), .val (.int (1 : Int32)), .val (.int (0 : Int32)), .unset, .unset, .unset, .unset, .unset, .unset] [.null]))
        refine Go.of (fun _ q => XS.goto X17.here hx rfl (pc0 := 154) (pc' := 159) rfl (hb hby at_154) (by decide) (by decide) q) ?_
        show Go _ _ _ _ _ _ _ (T17.setTop (mkF m 159 #[.val (.int x1), .val (.int x2), .val (.int x3), .val (.int x4), .val (.int x5), .val (.long x6), .second, .val (.ref b1), .val (.ref s1), .val (.ref b2), .val (.ref s2), .val (.ref b3), .val (.ref s3), .val (.ref n1), .val (.ref n2), .val (.int (1 : Int32)), .val (.int (0 : Int32)), .unset, .unset, .unset, .unset, .unset, .unset] [.null]))
        exact J38 _ (by rw [if_neg c150]) rfl
    · refine Go.of (fun _ q => XS.ifNo X17.here hx rfl (hb hby at_136) rfl ((if0 _ _).trans (feq c136).1) q) ?_
      show Go _ _ _ _ _ _ _ (T17.setTop (mkF m 139 #[.val (.int x1), .val (.int x2), .val (.int x3), .val (.int x4), .val (.int x5), .val (.long x6), .second, .val (.ref b1), .val (.ref s1), .val (.ref b2), .val (.ref s2), .val (.ref b3), .val (.ref s3), .val (.ref n1), .val (.ref n2), .val (.int (1 : Int32)), .unset, .unset, .unset, .unset, .unset, .unset, .unset] []))
      refine Go.of (fun _ q => XS.iconst X17.here hx rfl (hb hby at_139) q) ?_
      show Go _ _ _ _ _ _ _ (T17.setTop (mkF m 140 #[.val (.int x1), .val (.int x2), .val (.int x3), .val (.int x4), .val (.int x5), .val (.long x6), .second, .val (.ref b1), .val (.ref s1), .val (.ref b2), .val (.ref s2), .val (.ref b3), .val (.ref s3), .val (.ref n1), .val (.ref n2), .val (.int (1 : Int32)), .unset, .unset, .unset, .unset, .unset, .unset, .unset] [(.int (1 : Int32))]))
      refine Go.of (fun _ q => XS.goto X17.here hx rfl (pc0 := 140) (pc' := 144) rfl (hb hby at_140) (by decide) (by decide) q) ?_
      show Go _ _ _ _ _ _ _ (T17.setTop (mkF m 144 #[.val (.int x1), .val (.int x2), .val (.int x3), .val (.int x4), .val (.int x5), .val (.long x6), .second, .val (.ref b1), .val (.ref s1), .val (.ref b2), .val (.ref s2), .val (.ref b3), .val (.ref s3), .val (.ref n1), .val (.ref n2), .val (.int (1 : Int32)), .unset, .unset, .unset, .unset, .unset, .unset, .unset] [(.int (1 : Int32))]))
      refine Go.of (fun _ q => XS.istore X17.here hx rfl (hb hby at_144) rfl (l' := #[.val (.int x1), .val (.int x2), .val (.int x3), .val (.int x4), .val (.int x5), .val (.long x6), .second, .val (.ref b1), .val (.ref s1), .val (.ref b2), .val (.ref s2), .val (.ref b3), .val (.ref s3), .val (.ref n1), .val (.ref n2), .val (.int (1 : Int32)), .val (.int (1 : Int32)), .unset, .unset, .unset, .unset, .unset, .unset]) rfl q) ?_
      show Go _ _ _ _ _ _ _ (T17.setTop (mkF m 146 #[.val (.int x1), .val (.int x2), .val (.int x3), .val (.int x4), .val (.int x5), .val (.long x6), .second, .val (.ref b1), .val (.ref s1), .val (.ref b2), .val (.ref s2), .val (.ref b3), .val (.ref s3), .val (.ref n1), .val (.ref n2), .val (.int (1 : Int32)), .val (.int (1 : Int32)), .unset, .unset, .unset, .unset, .unset, .unset] []))
      refine Go.of (fun _ q => XS.iload X17.here hx rfl (hb hby at_146) rfl q) ?_
      show Go _ _ _ _ _ _ _ (T17.setTop (mkF m 148 #[.val (.int x1), .val (.int x2), .val (.int x3), .val (.int x4), .val (.int x5), .val (.long x6), .second, .val (.ref b1), .val (.ref s1), .val (.ref b2), .val (.ref s2), .val (.ref b3), .val (.ref s3), .val (.ref n1), .val (.ref n2), .val (.int (1 : Int32)), .val (.int (1 : Int32)), .unset, .unset, .unset, .unset, .unset, .unset] [(.int x5)]))
      refine Go.of (fun _ q => XS.iconst X17.here hx rfl (hb hby at_148) q) ?_
      show Go _ _ _ _ _ _ _ (T17.setTop (mkF m 149 #[.val (.int x1), .val (.int x2), .val (.int x3), .val (.int x4), .val (.int x5), .val (.long x6), .second, .val (.ref b1), .val (.ref s1), .val (.ref b2), .val (.ref s2), .val (.ref b3), .val (.ref s3), .val (.ref n1), .val (.ref n2), .val (.int (1 : Int32)), .val (.int (1 : Int32)), .unset, .unset, .unset, .unset, .unset, .unset] [(.int (4 : Int32)), (.int x5)]))
      refine Go.of (fun _ q => XS.iand X17.here hx rfl (hb hby at_149) rfl q) ?_
      show Go _ _ _ _ _ _ _ (T17.setTop (mkF m 150 #[.val (.int x1), .val (.int x2), .val (.int x3), .val (.int x4), .val (.int x5), .val (.long x6), .second, .val (.ref b1), .val (.ref s1), .val (.ref b2), .val (.ref s2), .val (.ref b3), .val (.ref s3), .val (.ref n1), .val (.ref n2), .val (.int (1 : Int32)), .val (.int (1 : Int32)), .unset, .unset, .unset, .unset, .unset, .unset] [(.int (x5 &&& (4 : Int32)))]))
      have J49 : ∀ (zJ49_0 : Value), zJ49_0 = ((if (x5 &&& (4 : Int32)) = (0 : Int32) then (.ref s2) else .null) : Value) → zJ49_0.isRef = true → Go p e below s room_1.cells room_1.slots (Q0 Z x1 x2 x3 x4 x5 x6 cs h0 n0) (T17.setTop (mkF m 159 #[.val (.int x1), .val (.int x2), .val (.int x3), .val (.int x4), .val (.int x5), .val (.long x6), .second, .val (.ref b1), .val (.ref s1), .val (.ref b2), .val (.ref s2), .val (.ref b3), .val (.ref s3), .val (.ref n1), .val (.ref n2), .val (.int (1 : Int32)), .val (.int (1 : Int32)), .unset, .unset, .unset, .unset, .unset, .unset] [zJ49_0])) := by
        intro zJ49_0 hzJ49_0 rzJ49_0
        show Go _ _ _ _ _ _ _ (T17.setTop (mkF m 159 #[.val (.int x1), .val (.int x2), .val (.int x3), .val (.int x4), .val (.int x5), .val (.long x6), .second, .val (.ref b1), .val (.ref s1), .val (.ref b2), .val (.ref s2), .val (.ref b3), .val (.ref s3), .val (.ref n1), .val (.ref n2), .val (.int (1 : Int32)), .val (.int (1 : Int32)), .unset, .unset, .unset, .unset, .unset, .unset] [zJ49_0]))
        refine Go.of (fun _ q => XS.astore X17.here hx rfl (hb hby at_159) rfl rzJ49_0 (l' := #[.val (.int x1), .val (.int x2), .val (.int x3), .val (.int x4), .val (.int x5), .val (.long x6), .second, .val (.ref b1), .val (.ref s1), .val (.ref b2), .val (.ref s2), .val (.ref b3), .val (.ref s3), .val (.ref n1), .val (.ref n2), .val (.int (1 : Int32)), .val (.int (1 : Int32)), .val zJ49_0, .unset, .unset, .unset, .unset, .unset]) (by first | rfl | (cases zJ49_0 <;> first | rfl | (simp [Value.isRef] at rzJ49_0; done))) q) ?_
        show Go _ _ _ _ _ _ _ (T17.setTop (mkF m 161 #[.val (.int x1), .val (.int x2), .val (.int x3), .val (.int x4), .val (.int x5), .val (.long x6), .second, .val (.ref b1), .val (.ref s1), .val (.ref b2), .val (.ref s2), .val (.ref b3), .val (.ref s3), .val (.ref n1), .val (.ref n2), .val (.int (1 : Int32)), .val (.int (1 : Int32)), .val zJ49_0, .unset, .unset, .unset, .unset, .unset] []))
        refine Go.of (fun _ q => XS.iload X17.here hx rfl (hb hby at_161) rfl q) ?_
        show Go _ _ _ _ _ _ _ (T17.setTop (mkF m 163 #[.val (.int x1), .val (.int x2), .val (.int x3), .val (.int x4), .val (.int x5), .val (.long x6), .second, .val (.ref b1), .val (.ref s1), .val (.ref b2), .val (.ref s2), .val (.ref b3), .val (.ref s3), .val (.ref n1), .val (.ref n2), .val (.int (1 : Int32)), .val (.int (1 : Int32)), .val zJ49_0, .unset, .unset, .unset, .unset, .unset] [(.int x5)]))
        refine Go.of (fun _ q => XS.bipush X17.here hx rfl (hb hby at_163) q) ?_
        show Go _ _ _ _ _ _ _ (T17.setTop (mkF m 165 #[.val (.int x1), .val (.int x2), .val (.int x3), .val (.int x4), .val (.int x5), .val (.long x6), .second, .val (.ref b1), .val (.ref s1), .val (.ref b2), .val (.ref s2), .val (.ref b3), .val (.ref s3), .val (.ref n1), .val (.ref n2), .val (.int (1 : Int32)), .val (.int (1 : Int32)), .val zJ49_0, .unset, .unset, .unset, .unset, .unset] [(.int (8 : Int32)), (.int x5)]))
        refine Go.of (fun _ q => XS.iand X17.here hx rfl (hb hby at_165) rfl q) ?_
        show Go _ _ _ _ _ _ _ (T17.setTop (mkF m 166 #[.val (.int x1), .val (.int x2), .val (.int x3), .val (.int x4), .val (.int x5), .val (.long x6), .second, .val (.ref b1), .val (.ref s1), .val (.ref b2), .val (.ref s2), .val (.ref b3), .val (.ref s3), .val (.ref n1), .val (.ref n2), .val (.int (1 : Int32)), .val (.int (1 : Int32)), .val zJ49_0, .unset, .unset, .unset, .unset, .unset] [(.int (x5 &&& (8 : Int32)))]))
        have J50 : ∀ (zJ50_0 : Value), zJ50_0 = ((if (x5 &&& (8 : Int32)) = (0 : Int32) then (.ref n2) else .null) : Value) → zJ50_0.isRef = true → Go p e below s room_1.cells room_1.slots (Q0 Z x1 x2 x3 x4 x5 x6 cs h0 n0) (T17.setTop (mkF m 175 #[.val (.int x1), .val (.int x2), .val (.int x3), .val (.int x4), .val (.int x5), .val (.long x6), .second, .val (.ref b1), .val (.ref s1), .val (.ref b2), .val (.ref s2), .val (.ref b3), .val (.ref s3), .val (.ref n1), .val (.ref n2), .val (.int (1 : Int32)), .val (.int (1 : Int32)), .val zJ49_0, .unset, .unset, .unset, .unset, .unset] [zJ50_0])) := by
          intro zJ50_0 hzJ50_0 rzJ50_0
          show Go _ _ _ _ _ _ _ (T17.setTop (mkF m 175 #[.val (.int x1), .val (.int x2), .val (.int x3), .val (.int x4), .val (.int x5), .val (.long x6), .second, .val (.ref b1), .val (.ref s1), .val (.ref b2), .val (.ref s2), .val (.ref b3), .val (.ref s3), .val (.ref n1), .val (.ref n2), .val (.int (1 : Int32)), .val (.int (1 : Int32)), .val zJ49_0, .unset, .unset, .unset, .unset, .unset] [zJ50_0]))
          refine Go.of (fun _ q => XS.astore X17.here hx rfl (hb hby at_175) rfl rzJ50_0 (l' := #[.val (.int x1), .val (.int x2), .val (.int x3), .val (.int x4), .val (.int x5), .val (.long x6), .second, .val (.ref b1), .val (.ref s1), .val (.ref b2), .val (.ref s2), .val (.ref b3), .val (.ref s3), .val (.ref n1), .val (.ref n2), .val (.int (1 : Int32)), .val (.int (1 : Int32)), .val zJ49_0, .val zJ50_0, .unset, .unset, .unset, .unset]) (by first | rfl | (cases zJ50_0 <;> first | rfl | (simp [Value.isRef] at rzJ50_0; done))) q) ?_
          show Go _ _ _ _ _ _ _ (T17.setTop (mkF m 177 #[.val (.int x1), .val (.int x2), .val (.int x3), .val (.int x4), .val (.int x5), .val (.long x6), .second, .val (.ref b1), .val (.ref s1), .val (.ref b2), .val (.ref s2), .val (.ref b3), .val (.ref s3), .val (.ref n1), .val (.ref n2), .val (.int (1 : Int32)), .val (.int (1 : Int32)), .val zJ49_0, .val zJ50_0, .unset, .unset, .unset, .unset] []))
          obtain ⟨T51, h51, X51, e51, E51, A51, D51, -, st51⟩ := newO X17 hx hZ hown (hw _ (List.mem_of_getElem? (i := 46) rfl)) (hw _ (List.mem_of_getElem? (i := 47) rfl)) (hw _ (List.mem_of_getElem? (i := 48) rfl)) rfl (g := (mkF m 177 #[.val (.int x1), .val (.int x2), .val (.int x3), .val (.int x4), .val (.int x5), .val (.long x6), .second, .val (.ref b1), .val (.ref s1), .val (.ref b2), .val (.ref s2), .val (.ref b3), .val (.ref s3), .val (.ref n1), .val (.ref n2), .val (.int (1 : Int32)), .val (.int (1 : Int32)), .val zJ49_0, .val zJ50_0, .unset, .unset, .unset, .unset] [])) rfl (hb hby at_177) (by decide) (by decide)
          obtain ⟨a, g51⟩ : ∃ z, z = T17.heap.size := ⟨_, rfl⟩
          rw [← g51] at A51 D51 st51
          refine Go.of st51 ?_
          have g_a : n0 ≤ a := Nat.le_trans Zs (Nat.le_of_eq g51.symm)
          have sz_a : h0.size ≤ a := Nat.le_trans Kp.1 (Nat.le_of_eq g51.symm)
          have ne_b1_a : b1 ≠ a := Nat.ne_of_lt (Nat.lt_of_lt_of_le E_b1.lt (Nat.le_of_eq g51.symm))
          have ne_s1_a : s1 ≠ a := Nat.ne_of_lt (Nat.lt_of_lt_of_le E_s1.lt (Nat.le_of_eq g51.symm))
          have ne_d1_a : d1 ≠ a := Nat.ne_of_lt (Nat.lt_of_lt_of_le A_d1.lt (Nat.le_of_eq g51.symm))
          have ne_b2_a : b2 ≠ a := Nat.ne_of_lt (Nat.lt_of_lt_of_le E_b2.lt (Nat.le_of_eq g51.symm))
          have ne_s2_a : s2 ≠ a := Nat.ne_of_lt (Nat.lt_of_lt_of_le E_s2.lt (Nat.le_of_eq g51.symm))
          have ne_d2_a : d2 ≠ a := Nat.ne_of_lt (Nat.lt_of_lt_of_le A_d2.lt (Nat.le_of_eq g51.symm))
          have ne_b3_a : b3 ≠ a := Nat.ne_of_lt (Nat.lt_of_lt_of_le E_b3.lt (Nat.le_of_eq g51.symm))
          have ne_s3_a : s3 ≠ a := Nat.ne_of_lt (Nat.lt_of_lt_of_le E_s3.lt (Nat.le_of_eq g51.symm))
          have ne_d3_a : d3 ≠ a := Nat.ne_of_lt (Nat.lt_of_lt_of_le A_d3.lt (Nat.le_of_eq g51.symm))
          have ne_n1_a : n1 ≠ a := Nat.ne_of_lt (Nat.lt_of_lt_of_le E_n1.lt (Nat.le_of_eq g51.symm))
          have ne_n2_a : n2 ≠ a := Nat.ne_of_lt (Nat.lt_of_lt_of_le E_n2.lt (Nat.le_of_eq g51.symm))
          have Zs := Nat.le_trans Zs E51.1
          have Kp := Kp.ext E51
          have Od := Od.ext E51
          have E_b1 := E_b1.ext E51
          have A_b1 := A_b1.ext E51
          have E_s1 := E_s1.ext E51
          have F_s1_value := F_s1_value.ext E51
          have F_s1_coder := F_s1_coder.ext E51
          have A_d1 := A_d1.ext E51
          have E_b2 := E_b2.ext E51
          have A_b2 := A_b2.ext E51
          have E_s2 := E_s2.ext E51
          have F_s2_value := F_s2_value.ext E51
          have F_s2_coder := F_s2_coder.ext E51
          have A_d2 := A_d2.ext E51
          have E_b3 := E_b3.ext E51
          have A_b3 := A_b3.ext E51
          have E_s3 := E_s3.ext E51
          have F_s3_value := F_s3_value.ext E51
          have F_s3_coder := F_s3_coder.ext E51
          have A_d3 := A_d3.ext E51
          have E_n1 := E_n1.ext E51
          have E_n2 := E_n2.ext E51
          have E_a := A51
          have F_a_client : Fld Z h51 a "com/example/lane/lane/AccessRecord" "client" "Ljava/lang/String;" .null := D51 (Or.inr (hw _ (List.mem_of_getElem? (i := 54) rfl))) (ty := (.object "java/lang/String")) (by decide)
          have F_a_start : Fld Z h51 a "com/example/lane/lane/AccessRecord" "start" "J" (.long (0 : Int64)) := D51 (Or.inr (hw _ (List.mem_of_getElem? (i := 56) rfl))) (ty := .long) (by decide)
          have F_a_attempts : Fld Z h51 a "com/example/lane/lane/AccessRecord" "attempts" "I" (.int (0 : Int32)) := D51 (Or.inl (hw _ (List.mem_of_getElem? (i := 63) rfl))) (ty := .int) (by decide)
          have F_a_upstream : Fld Z h51 a "com/example/lane/lane/AccessRecord" "upstream" "Ljava/lang/String;" .null := D51 (Or.inl (hw _ (List.mem_of_getElem? (i := 70) rfl))) (ty := (.object "java/lang/String")) (by decide)
          have F_a_node : Fld Z h51 a "com/example/lane/lane/AccessRecord" "node" "Lcom/example/lane/lane/config/HostPort;" .null := D51 (Or.inl (hw _ (List.mem_of_getElem? (i := 77) rfl))) (ty := (.object "com/example/lane/lane/config/HostPort")) (by decide)
          have F_a_status : Fld Z h51 a "com/example/lane/lane/AccessRecord" "status" "I" (.int (0 : Int32)) := D51 (Or.inl (hw _ (List.mem_of_getElem? (i := 84) rfl))) (ty := .int) (by decide)
          have F_a_route : Fld Z h51 a "com/example/lane/lane/AccessRecord" "route" "Ljava/lang/String;" .null := D51 (Or.inl (hw _ (List.mem_of_getElem? (i := 91) rfl))) (ty := (.object "java/lang/String")) (by decide)
          show Go _ _ _ _ _ _ _ (T51.setTop (mkF m 180 #[.val (.int x1), .val (.int x2), .val (.int x3), .val (.int x4), .val (.int x5), .val (.long x6), .second, .val (.ref b1), .val (.ref s1), .val (.ref b2), .val (.ref s2), .val (.ref b3), .val (.ref s3), .val (.ref n1), .val (.ref n2), .val (.int (1 : Int32)), .val (.int (1 : Int32)), .val zJ49_0, .val zJ50_0, .unset, .unset, .unset, .unset] [(.ref a)]))
          refine Go.of (fun _ q => XS.dup X51.here hx rfl (hb hby at_180) rfl rfl q) ?_
          show Go _ _ _ _ _ _ _ (T51.setTop (mkF m 181 #[.val (.int x1), .val (.int x2), .val (.int x3), .val (.int x4), .val (.int x5), .val (.long x6), .second, .val (.ref b1), .val (.ref s1), .val (.ref b2), .val (.ref s2), .val (.ref b3), .val (.ref s3), .val (.ref n1), .val (.ref n2), .val (.int (1 : Int32)), .val (.int (1 : Int32)), .val zJ49_0, .val zJ50_0, .unset, .unset, .unset, .unset] [(.ref a), (.ref a)]))
          refine Go.of (fun _ q => XS.aload X51.here hx rfl (hb hby at_181) rfl rfl q) ?_
          show Go _ _ _ _ _ _ _ (T51.setTop (mkF m 183 #[.val (.int x1), .val (.int x2), .val (.int x3), .val (.int x4), .val (.int x5), .val (.long x6), .second, .val (.ref b1), .val (.ref s1), .val (.ref b2), .val (.ref s2), .val (.ref b3), .val (.ref s3), .val (.ref n1), .val (.ref n2), .val (.int (1 : Int32)), .val (.int (1 : Int32)), .val zJ49_0, .val zJ50_0, .unset, .unset, .unset, .unset] [(.ref s3), (.ref a), (.ref a)]))
          refine Go.of (fun _ q => XS.lload X51.here hx rfl (hb hby at_183) rfl q) ?_
          show Go _ _ _ _ _ _ _ (T51.setTop (mkF m 185 #[.val (.int x1), .val (.int x2), .val (.int x3), .val (.int x4), .val (.int x5), .val (.long x6), .second, .val (.ref b1), .val (.ref s1), .val (.ref b2), .val (.ref s2), .val (.ref b3), .val (.ref s3), .val (.ref n1), .val (.ref n2), .val (.int (1 : Int32)), .val (.int (1 : Int32)), .val zJ49_0, .val zJ50_0, .unset, .unset, .unset, .unset] [(.long x6), (.ref s3), (.ref a), (.ref a)]))
          refine Go.special X51 hx hZ (y := (⟨"com/example/lane/lane/AccessRecord", "<init>", "(Ljava/lang/String;J)V"⟩ : MethodName)) (a := a) (argsL := [(.ref s3), (.long x6)]) rfl hown (hw _ (List.mem_of_getElem? (i := 49) rfl)) (hw _ (List.mem_of_getElem? (i := 50) rfl)) (hw _ (List.mem_of_getElem? (i := 48) rfl)) (hw _ (List.mem_of_getElem? (i := 51) rfl)) (by decide) 1 e51 (rm9 l Z a0 hw a s3 x6 .null (0 : Int64) .null .null (0 : Int32) h51 n0 Zs E_a F_a_client F_a_start F_a_upstream F_a_node F_a_attempts F_a_status F_a_route g_a) (by decide) (by decide) (by decide) (by decide) (g := (mkF m 185 #[.val (.int x1), .val (.int x2), .val (.int x3), .val (.int x4), .val (.int x5), .val (.long x6), .second, .val (.ref b1), .val (.ref s1), .val (.ref b2), .val (.ref s2), .val (.ref b3), .val (.ref s3), .val (.ref n1), .val (.ref n2), .val (.int (1 : Int32)), .val (.int (1 : Int32)), .val zJ49_0, .val zJ50_0, .unset, .unset, .unset, .unset] [(.long x6), (.ref s3), (.ref a), (.ref a)])) rfl (by rw [hml]; rfl) (rest := [(.ref a)]) (lenOf pd7 rfl) rfl (by show 2 * 0 + _ ≤ _; exact Nat.le_of_eq rfl) (hb hby at_185) ?_
          intro T52 v52 L52 X52 q52
          obtain ⟨rfl, Nq52, K52, f52_0, f52_1, f52_2, f52_3, f52_4, f52_5⟩ := q52
          have N52 := Fr.app N17 Nq52
          have Zs := Nat.le_trans Zs K52.1
          have Kp := Kp.trans K52 (allS (P := fun x => x ∈ [] ∨ h0.size ≤ x) (Or.inr sz_a) all0)
          have Od := Od.keep K52 (allS (P := fun x => n0 ≤ x) g_a all0)
          have E_b1 := E_b1.keep K52
          have A_b1 := A_b1.keep K52 (ninS ne_b1_a nin0)
          have E_s1 := E_s1.keep K52
          have F_s1_value := F_s1_value.keep K52 (ninS ne_s1_a nin0)
          have F_s1_coder := F_s1_coder.keep K52 (ninS ne_s1_a nin0)
          have A_d1 := A_d1.keep K52 (ninS ne_d1_a nin0)
          have E_b2 := E_b2.keep K52
          have A_b2 := A_b2.keep K52 (ninS ne_b2_a nin0)
          have E_s2 := E_s2.keep K52
          have F_s2_value := F_s2_value.keep K52 (ninS ne_s2_a nin0)
          have F_s2_coder := F_s2_coder.keep K52 (ninS ne_s2_a nin0)
          have A_d2 := A_d2.keep K52 (ninS ne_d2_a nin0)
          have E_b3 := E_b3.keep K52
          have A_b3 := A_b3.keep K52 (ninS ne_b3_a nin0)
          have E_s3 := E_s3.keep K52
          have F_s3_value := F_s3_value.keep K52 (ninS ne_s3_a nin0)
          have F_s3_coder := F_s3_coder.keep K52 (ninS ne_s3_a nin0)
          have A_d3 := A_d3.keep K52 (ninS ne_d3_a nin0)
          have E_n1 := E_n1.keep K52
          have E_n2 := E_n2.keep K52
          have E_a := E_a.keep K52
          have F_a_upstream := f52_1
          have F_a_node := f52_2
          have F_a_attempts := f52_3
          have F_a_status := f52_4
          have F_a_route := f52_5
          show Go _ _ _ _ _ _ _ (T52.setTop (mkF m 188 #[.val (.int x1), .val (.int x2), .val (.int x3), .val (.int x4), .val (.int x5), .val (.long x6), .second, .val (.ref b1), .val (.ref s1), .val (.ref b2), .val (.ref s2), .val (.ref b3), .val (.ref s3), .val (.ref n1), .val (.ref n2), .val (.int (1 : Int32)), .val (.int (1 : Int32)), .val zJ49_0, .val zJ50_0, .unset, .unset, .unset, .unset] [(.ref a)]))
          refine Go.of (fun _ q => XS.astore X52.here hx rfl (hb hby at_188) rfl rfl (l' := #[.val (.int x1), .val (.int x2), .val (.int x3), .val (.int x4), .val (.int x5), .val (.long x6), .second, .val (.ref b1), .val (.ref s1), .val (.ref b2), .val (.ref s2), .val (.ref b3), .val (.ref s3), .val (.ref n1), .val (.ref n2), .val (.int (1 : Int32)), .val (.int (1 : Int32)), .val zJ49_0, .val zJ50_0, .val (.ref a), .unset, .unset, .unset]) rfl q) ?_
          show Go _ _ _ _ _ _ _ (T52.setTop (mkF m 190 #[.val (.int x1), .val (.int x2), .val (.int x3), .val (.int x4), .val (.int x5), .val (.long x6), .second, .val (.ref b1), .val (.ref s1), .val (.ref b2), .val (.ref s2), .val (.ref b3), .val (.ref s3), .val (.ref n1), .val (.ref n2), .val (.int (1 : Int32)), .val (.int (1 : Int32)), .val zJ49_0, .val zJ50_0, .val (.ref a), .unset, .unset, .unset] []))
          refine Go.of (fun _ q => XS.iload X52.here hx rfl (hb hby at_190) rfl q) ?_
          show Go _ _ _ _ _ _ _ (T52.setTop (mkF m 192 #[.val (.int x1), .val (.int x2), .val (.int x3), .val (.int x4), .val (.int x5), .val (.long x6), .second, .val (.ref b1), .val (.ref s1), .val (.ref b2), .val (.ref s2), .val (.ref b3), .val (.ref s3), .val (.ref n1), .val (.ref n2), .val (.int (1 : Int32)), .val (.int (1 : Int32)), .val zJ49_0, .val zJ50_0, .val (.ref a), .unset, .unset, .unset] [(.int (1 : Int32))]))
          refine Go.of (fun _ q => XS.ifNo X52.here hx rfl (hb hby at_192) rfl ((if0 _ _).trans (feq (by decide)).1) q) ?_
          show Go _ _ _ _ _ _ _ (T52.setTop (mkF m 195 #[.val (.int x1), .val (.int x2), .val (.int x3), .val (.int x4), .val (.int x5), .val (.long x6), .second, .val (.ref b1), .val (.ref s1), .val (.ref b2), .val (.ref s2), .val (.ref b3), .val (.ref s3), .val (.ref n1), .val (.ref n2), .val (.int (1 : Int32)), .val (.int (1 : Int32)), .val zJ49_0, .val zJ50_0, .val (.ref a), .unset, .unset, .unset] []))
          refine Go.of (fun _ q => XS.aload X52.here hx rfl (hb hby at_195) rfl rfl q) ?_
          show Go _ _ _ _ _ _ _ (T52.setTop (mkF m 197 #[.val (.int x1), .val (.int x2), .val (.int x3), .val (.int x4), .val (.int x5), .val (.long x6), .second, .val (.ref b1), .val (.ref s1), .val (.ref b2), .val (.ref s2), .val (.ref b3), .val (.ref s3), .val (.ref n1), .val (.ref n2), .val (.int (1 : Int32)), .val (.int (1 : Int32)), .val zJ49_0, .val zJ50_0, .val (.ref a), .unset, .unset, .unset] [(.ref a)]))
          refine Go.of (fun _ q => XS.aload X52.here hx rfl (hb hby at_197) rfl rfl q) ?_
          show Go _ _ _ _ _ _ _ (T52.setTop (mkF m 199 #[.val (.int x1), .val (.int x2), .val (.int x3), .val (.int x4), .val (.int x5), .val (.long x6), .second, .val (.ref b1), .val (.ref s1), .val (.ref b2), .val (.ref s2), .val (.ref b3), .val (.ref s3), .val (.ref n1), .val (.ref n2), .val (.int (1 : Int32)), .val (.int (1 : Int32)), .val zJ49_0, .val zJ50_0, .val (.ref a), .unset, .unset, .unset] [(.ref s1), (.ref a)]))
          refine Go.of (fun _ q => XS.aload X52.here hx rfl (hb hby at_199) rfl rfl q) ?_
          show Go _ _ _ _ _ _ _ (T52.setTop (mkF m 201 #[.val (.int x1), .val (.int x2), .val (.int x3), .val (.int x4), .val (.int x5), .val (.long x6), .second, .val (.ref b1), .val (.ref s1), .val (.ref b2), .val (.ref s2), .val (.ref b3), .val (.ref s3), .val (.ref n1), .val (.ref n2), .val (.int (1 : Int32)), .val (.int (1 : Int32)), .val zJ49_0, .val zJ50_0, .val (.ref a), .unset, .unset, .unset] [(.ref n1), (.ref s1), (.ref a)]))
          refine Go.virtual X52 hx hZ (y := (⟨"com/example/lane/lane/AccessRecord", "tried", "(Ljava/lang/String;Lcom/example/lane/lane/config/HostPort;)V"⟩ : MethodName)) (z := (⟨"com/example/lane/lane/AccessRecord", "tried", "(Ljava/lang/String;Lcom/example/lane/lane/config/HostPort;)V"⟩ : MethodName)) (a := a) (argsL := [(.ref s1), (.ref n1)]) hown (hw _ (List.mem_of_getElem? (i := 92) rfl)) (hw _ (List.mem_of_getElem? (i := 93) rfl)) (notFace_of_selects (args := #[]) (mvT hZ (hw _ (List.mem_of_getElem? (i := 95) rfl)))) (hw _ (List.mem_of_getElem? (i := 95) rfl)) (hw _ (List.mem_of_getElem? (i := 94) rfl)) (hw _ (List.mem_of_getElem? (i := 48) rfl)) (hw _ (List.mem_of_getElem? (i := 96) rfl)) (by decide) 0 rfl E_a (rm15 l Z a0 hw a (.ref s1) rfl (.ref n1) rfl .null .null (0 : Int32) T52.heap n0 Zs E_a F_a_upstream F_a_node F_a_attempts F_a_status F_a_route g_a) (by decide) (by decide) (by decide) (by decide) (g := (mkF m 201 #[.val (.int x1), .val (.int x2), .val (.int x3), .val (.int x4), .val (.int x5), .val (.long x6), .second, .val (.ref b1), .val (.ref s1), .val (.ref b2), .val (.ref s2), .val (.ref b3), .val (.ref s3), .val (.ref n1), .val (.ref n2), .val (.int (1 : Int32)), .val (.int (1 : Int32)), .val zJ49_0, .val zJ50_0, .val (.ref a), .unset, .unset, .unset] [(.ref n1), (.ref s1), (.ref a)])) rfl (by rw [hml]; rfl) (rest := []) (lenOf pd11 rfl) rfl (by show 2 * 0 + _ ≤ _; exact Nat.le_of_eq rfl) (hb hby at_201) ?_
          intro T53 v53 L53 X53 q53
          obtain ⟨rfl, Nq53, K53, f53_0, f53_1, f53_2, f53_3, f53_4, f53_5⟩ := q53
          have N53 := Fr.app N52 Nq53
          have Zs := Nat.le_trans Zs K53.1
          have Kp := Kp.trans K53 (allS (P := fun x => x ∈ [] ∨ h0.size ≤ x) (Or.inr sz_a) all0)
          have Od := Od.keep K53 (allS (P := fun x => n0 ≤ x) g_a all0)
          have E_b1 := E_b1.keep K53
          have A_b1 := A_b1.keep K53 (ninS ne_b1_a nin0)
          have E_s1 := E_s1.keep K53
          have F_s1_value := F_s1_value.keep K53 (ninS ne_s1_a nin0)
          have F_s1_coder := F_s1_coder.keep K53 (ninS ne_s1_a nin0)
          have A_d1 := A_d1.keep K53 (ninS ne_d1_a nin0)
          have E_b2 := E_b2.keep K53
          have A_b2 := A_b2.keep K53 (ninS ne_b2_a nin0)
          have E_s2 := E_s2.keep K53
          have F_s2_value := F_s2_value.keep K53 (ninS ne_s2_a nin0)
          have F_s2_coder := F_s2_coder.keep K53 (ninS ne_s2_a nin0)
          have A_d2 := A_d2.keep K53 (ninS ne_d2_a nin0)
          have E_b3 := E_b3.keep K53
          have A_b3 := A_b3.keep K53 (ninS ne_b3_a nin0)
          have E_s3 := E_s3.keep K53
          have F_s3_value := F_s3_value.keep K53 (ninS ne_s3_a nin0)
          have F_s3_coder := F_s3_coder.keep K53 (ninS ne_s3_a nin0)
          have A_d3 := A_d3.keep K53 (ninS ne_d3_a nin0)
          have E_n1 := E_n1.keep K53
          have E_n2 := E_n2.keep K53
          have E_a := E_a.keep K53
          have F_a_upstream := f53_1
          have F_a_node := f53_2
          have F_a_attempts := f53_3
          have F_a_status := f53_4
          have F_a_route := f53_5
          show Go _ _ _ _ _ _ _ (T53.setTop (mkF m 204 #[.val (.int x1), .val (.int x2), .val (.int x3), .val (.int x4), .val (.int x5), .val (.long x6), .second, .val (.ref b1), .val (.ref s1), .val (.ref b2), .val (.ref s2), .val (.ref b3), .val (.ref s3), .val (.ref n1), .val (.ref n2), .val (.int (1 : Int32)), .val (.int (1 : Int32)), .val zJ49_0, .val zJ50_0, .val (.ref a), .unset, .unset, .unset] []))
          refine Go.of (fun _ q => XS.iload X53.here hx rfl (hb hby at_204) rfl q) ?_
          show Go _ _ _ _ _ _ _ (T53.setTop (mkF m 206 #[.val (.int x1), .val (.int x2), .val (.int x3), .val (.int x4), .val (.int x5), .val (.long x6), .second, .val (.ref b1), .val (.ref s1), .val (.ref b2), .val (.ref s2), .val (.ref b3), .val (.ref s3), .val (.ref n1), .val (.ref n2), .val (.int (1 : Int32)), .val (.int (1 : Int32)), .val zJ49_0, .val zJ50_0, .val (.ref a), .unset, .unset, .unset] [(.int (1 : Int32))]))
          refine Go.of (fun _ q => XS.ifNo X53.here hx rfl (hb hby at_206) rfl ((if0 _ _).trans (feq (by decide)).1) q) ?_
          show Go _ _ _ _ _ _ _ (T53.setTop (mkF m 209 #[.val (.int x1), .val (.int x2), .val (.int x3), .val (.int x4), .val (.int x5), .val (.long x6), .second, .val (.ref b1), .val (.ref s1), .val (.ref b2), .val (.ref s2), .val (.ref b3), .val (.ref s3), .val (.ref n1), .val (.ref n2), .val (.int (1 : Int32)), .val (.int (1 : Int32)), .val zJ49_0, .val zJ50_0, .val (.ref a), .unset, .unset, .unset] []))
          refine Go.of (fun _ q => XS.aload X53.here hx rfl (hb hby at_209) rfl rfl q) ?_
          show Go _ _ _ _ _ _ _ (T53.setTop (mkF m 211 #[.val (.int x1), .val (.int x2), .val (.int x3), .val (.int x4), .val (.int x5), .val (.long x6), .second, .val (.ref b1), .val (.ref s1), .val (.ref b2), .val (.ref s2), .val (.ref b3), .val (.ref s3), .val (.ref n1), .val (.ref n2), .val (.int (1 : Int32)), .val (.int (1 : Int32)), .val zJ49_0, .val zJ50_0, .val (.ref a), .unset, .unset, .unset] [(.ref a)]))
          refine Go.of (fun _ q => XS.aload X53.here hx rfl (hb hby at_211) rfl rzJ49_0 q) ?_
          show Go _ _ _ _ _ _ _ (T53.setTop (mkF m 213 #[.val (.int x1), .val (.int x2), .val (.int x3), .val (.int x4), .val (.int x5), .val (.long x6), .second, .val (.ref b1), .val (.ref s1), .val (.ref b2), .val (.ref s2), .val (.ref b3), .val (.ref s3), .val (.ref n1), .val (.ref n2), .val (.int (1 : Int32)), .val (.int (1 : Int32)), .val zJ49_0, .val zJ50_0, .val (.ref a), .unset, .unset, .unset] [zJ49_0, (.ref a)]))
          refine Go.of (fun _ q => XS.aload X53.here hx rfl (hb hby at_213) rfl rzJ50_0 q) ?_
          show Go _ _ _ _ _ _ _ (T53.setTop (mkF m 215 #[.val (.int x1), .val (.int x2), .val (.int x3), .val (.int x4), .val (.int x5), .val (.long x6), .second, .val (.ref b1), .val (.ref s1), .val (.ref b2), .val (.ref s2), .val (.ref b3), .val (.ref s3), .val (.ref n1), .val (.ref n2), .val (.int (1 : Int32)), .val (.int (1 : Int32)), .val zJ49_0, .val zJ50_0, .val (.ref a), .unset, .unset, .unset] [zJ50_0, zJ49_0, (.ref a)]))
          refine Go.virtual X53 hx hZ (y := (⟨"com/example/lane/lane/AccessRecord", "tried", "(Ljava/lang/String;Lcom/example/lane/lane/config/HostPort;)V"⟩ : MethodName)) (z := (⟨"com/example/lane/lane/AccessRecord", "tried", "(Ljava/lang/String;Lcom/example/lane/lane/config/HostPort;)V"⟩ : MethodName)) (a := a) (argsL := [zJ49_0, zJ50_0]) hown (hw _ (List.mem_of_getElem? (i := 92) rfl)) (hw _ (List.mem_of_getElem? (i := 93) rfl)) (notFace_of_selects (args := #[]) (mvT hZ (hw _ (List.mem_of_getElem? (i := 95) rfl)))) (hw _ (List.mem_of_getElem? (i := 95) rfl)) (hw _ (List.mem_of_getElem? (i := 94) rfl)) (hw _ (List.mem_of_getElem? (i := 48) rfl)) (hw _ (List.mem_of_getElem? (i := 96) rfl)) (by decide) 0 rfl E_a (rm15 l Z a0 hw a zJ49_0 rzJ49_0 zJ50_0 rzJ50_0 (.ref s1) (.ref n1) ((0 : Int32) + (1 : Int32)) T53.heap n0 Zs E_a F_a_upstream F_a_node F_a_attempts F_a_status F_a_route g_a) (by decide) (by decide) (by decide) (by decide) (g := (mkF m 215 #[.val (.int x1), .val (.int x2), .val (.int x3), .val (.int x4), .val (.int x5), .val (.long x6), .second, .val (.ref b1), .val (.ref s1), .val (.ref b2), .val (.ref s2), .val (.ref b3), .val (.ref s3), .val (.ref n1), .val (.ref n2), .val (.int (1 : Int32)), .val (.int (1 : Int32)), .val zJ49_0, .val zJ50_0, .val (.ref a), .unset, .unset, .unset] [zJ50_0, zJ49_0, (.ref a)])) rfl (by rw [hml]; rfl) (rest := []) (lenOf pd11 rfl) rfl (by show 2 * 0 + _ ≤ _; exact Nat.le_of_eq rfl) (hb hby at_215) ?_
          intro T54 v54 L54 X54 q54
          obtain ⟨rfl, Nq54, K54, f54_0, f54_1, f54_2, f54_3, f54_4, f54_5⟩ := q54
          have N54 := Fr.app N53 Nq54
          have Zs := Nat.le_trans Zs K54.1
          have Kp := Kp.trans K54 (allS (P := fun x => x ∈ [] ∨ h0.size ≤ x) (Or.inr sz_a) all0)
          have Od := Od.keep K54 (allS (P := fun x => n0 ≤ x) g_a all0)
          have E_b1 := E_b1.keep K54
          have A_b1 := A_b1.keep K54 (ninS ne_b1_a nin0)
          have E_s1 := E_s1.keep K54
          have F_s1_value := F_s1_value.keep K54 (ninS ne_s1_a nin0)
          have F_s1_coder := F_s1_coder.keep K54 (ninS ne_s1_a nin0)
          have A_d1 := A_d1.keep K54 (ninS ne_d1_a nin0)
          have E_b2 := E_b2.keep K54
          have A_b2 := A_b2.keep K54 (ninS ne_b2_a nin0)
          have E_s2 := E_s2.keep K54
          have F_s2_value := F_s2_value.keep K54 (ninS ne_s2_a nin0)
          have F_s2_coder := F_s2_coder.keep K54 (ninS ne_s2_a nin0)
          have A_d2 := A_d2.keep K54 (ninS ne_d2_a nin0)
          have E_b3 := E_b3.keep K54
          have A_b3 := A_b3.keep K54 (ninS ne_b3_a nin0)
          have E_s3 := E_s3.keep K54
          have F_s3_value := F_s3_value.keep K54 (ninS ne_s3_a nin0)
          have F_s3_coder := F_s3_coder.keep K54 (ninS ne_s3_a nin0)
          have A_d3 := A_d3.keep K54 (ninS ne_d3_a nin0)
          have E_n1 := E_n1.keep K54
          have E_n2 := E_n2.keep K54
          have E_a := E_a.keep K54
          have F_a_upstream := f54_1
          have F_a_node := f54_2
          have F_a_attempts := f54_3
          have F_a_status := f54_4
          have F_a_route := f54_5
          show Go _ _ _ _ _ _ _ (T54.setTop (mkF m 218 #[.val (.int x1), .val (.int x2), .val (.int x3), .val (.int x4), .val (.int x5), .val (.long x6), .second, .val (.ref b1), .val (.ref s1), .val (.ref b2), .val (.ref s2), .val (.ref b3), .val (.ref s3), .val (.ref n1), .val (.ref n2), .val (.int (1 : Int32)), .val (.int (1 : Int32)), .val zJ49_0, .val zJ50_0, .val (.ref a), .unset, .unset, .unset] []))
          refine Go.of (fun _ q => XS.iload X54.here hx rfl (hb hby at_218) rfl q) ?_
          show Go _ _ _ _ _ _ _ (T54.setTop (mkF m 220 #[.val (.int x1), .val (.int x2), .val (.int x3), .val (.int x4), .val (.int x5), .val (.long x6), .second, .val (.ref b1), .val (.ref s1), .val (.ref b2), .val (.ref s2), .val (.ref b3), .val (.ref s3), .val (.ref n1), .val (.ref n2), .val (.int (1 : Int32)), .val (.int (1 : Int32)), .val zJ49_0, .val zJ50_0, .val (.ref a), .unset, .unset, .unset] [(.int (1 : Int32))]))
          refine Go.of (fun _ q => XS.ifNo X54.here hx rfl (hb hby at_220) rfl ((if0 _ _).trans (feq (by decide)).1) q) ?_
          show Go _ _ _ _ _ _ _ (T54.setTop (mkF m 223 #[.val (.int x1), .val (.int x2), .val (.int x3), .val (.int x4), .val (.int x5), .val (.long x6), .second, .val (.ref b1), .val (.ref s1), .val (.ref b2), .val (.ref s2), .val (.ref b3), .val (.ref s3), .val (.ref n1), .val (.ref n2), .val (.int (1 : Int32)), .val (.int (1 : Int32)), .val zJ49_0, .val zJ50_0, .val (.ref a), .unset, .unset, .unset] []))
          refine Go.of (fun _ q => XS.iconst X54.here hx rfl (hb hby at_223) q) ?_
          show Go _ _ _ _ _ _ _ (T54.setTop (mkF m 224 #[.val (.int x1), .val (.int x2), .val (.int x3), .val (.int x4), .val (.int x5), .val (.long x6), .second, .val (.ref b1), .val (.ref s1), .val (.ref b2), .val (.ref s2), .val (.ref b3), .val (.ref s3), .val (.ref n1), .val (.ref n2), .val (.int (1 : Int32)), .val (.int (1 : Int32)), .val zJ49_0, .val zJ50_0, .val (.ref a), .unset, .unset, .unset] [(.int (1 : Int32))]))
          refine Go.of (fun _ q => XS.goto X54.here hx rfl (pc0 := 224) (pc' := 228) rfl (hb hby at_224) (by decide) (by decide) q) ?_
          show Go _ _ _ _ _ _ _ (T54.setTop (mkF m 228 #[.val (.int x1), .val (.int x2), .val (.int x3), .val (.int x4), .val (.int x5), .val (.long x6), .second, .val (.ref b1), .val (.ref s1), .val (.ref b2), .val (.ref s2), .val (.ref b3), .val (.ref s3), .val (.ref n1), .val (.ref n2), .val (.int (1 : Int32)), .val (.int (1 : Int32)), .val zJ49_0, .val zJ50_0, .val (.ref a), .unset, .unset, .unset] [(.int (1 : Int32))]))
          refine Go.of (fun _ q => XS.iload X54.here hx rfl (hb hby at_228) rfl q) ?_
          show Go _ _ _ _ _ _ _ (T54.setTop (mkF m 230 #[.val (.int x1), .val (.int x2), .val (.int x3), .val (.int x4), .val (.int x5), .val (.long x6), .second, .val (.ref b1), .val (.ref s1), .val (.ref b2), .val (.ref s2), .val (.ref b3), .val (.ref s3), .val (.ref n1), .val (.ref n2), .val (.int (1 : Int32)), .val (.int (1 : Int32)), .val zJ49_0, .val zJ50_0, .val (.ref a), .unset, .unset, .unset] [(.int (1 : Int32)), (.int (1 : Int32))]))
          refine Go.of (fun _ q => XS.ifNo X54.here hx rfl (hb hby at_230) rfl ((if0 _ _).trans (feq (by decide)).1) q) ?_
          show Go _ _ _ _ _ _ _ (T54.setTop (mkF m 233 #[.val (.int x1), .val (.int x2), .val (.int x3), .val (.int x4), .val (.int x5), .val (.long x6), .second, .val (.ref b1), .val (.ref s1), .val (.ref b2), .val (.ref s2), .val (.ref b3), .val (.ref s3), .val (.ref n1), .val (.ref n2), .val (.int (1 : Int32)), .val (.int (1 : Int32)), .val zJ49_0, .val zJ50_0, .val (.ref a), .unset, .unset, .unset] [(.int (1 : Int32))]))
          refine Go.of (fun _ q => XS.iconst X54.here hx rfl (hb hby at_233) q) ?_
          show Go _ _ _ _ _ _ _ (T54.setTop (mkF m 234 #[.val (.int x1), .val (.int x2), .val (.int x3), .val (.int x4), .val (.int x5), .val (.long x6), .second, .val (.ref b1), .val (.ref s1), .val (.ref b2), .val (.ref s2), .val (.ref b3), .val (.ref s3), .val (.ref n1), .val (.ref n2), .val (.int (1 : Int32)), .val (.int (1 : Int32)), .val zJ49_0, .val zJ50_0, .val (.ref a), .unset, .unset, .unset] [(.int (1 : Int32)), (.int (1 : Int32))]))
          refine Go.of (fun _ q => XS.goto X54.here hx rfl (pc0 := 234) (pc' := 238) rfl (hb hby at_234) (by decide) (by decide) q) ?_
          show Go _ _ _ _ _ _ _ (T54.setTop (mkF m 238 #[.val (.int x1), .val (.int x2), .val (.int x3), .val (.int x4), .val (.int x5), .val (.long x6), .second, .val (.ref b1), .val (.ref s1), .val (.ref b2), .val (.ref s2), .val (.ref b3), .val (.ref s3), .val (.ref n1), .val (.ref n2), .val (.int (1 : Int32)), .val (.int (1 : Int32)), .val zJ49_0, .val zJ50_0, .val (.ref a), .unset, .unset, .unset] [(.int (1 : Int32)), (.int (1 : Int32))]))
          refine Go.of (fun _ q => XS.iadd X54.here hx rfl (hb hby at_238) rfl q) ?_
          show Go _ _ _ _ _ _ _ (T54.setTop (mkF m 239 #[.val (.int x1), .val (.int x2), .val (.int x3), .val (.int x4), .val (.int x5), .val (.long x6), .second, .val (.ref b1), .val (.ref s1), .val (.ref b2), .val (.ref s2), .val (.ref b3), .val (.ref s3), .val (.ref n1), .val (.ref n2), .val (.int (1 : Int32)), .val (.int (1 : Int32)), .val zJ49_0, .val zJ50_0, .val (.ref a), .unset, .unset, .unset] [(.int (2 : Int32))]))
          refine Go.of (fun _ q => XS.istore X54.here hx rfl (hb hby at_239) rfl (l' := #[.val (.int x1), .val (.int x2), .val (.int x3), .val (.int x4), .val (.int x5), .val (.long x6), .second, .val (.ref b1), .val (.ref s1), .val (.ref b2), .val (.ref s2), .val (.ref b3), .val (.ref s3), .val (.ref n1), .val (.ref n2), .val (.int (1 : Int32)), .val (.int (1 : Int32)), .val zJ49_0, .val zJ50_0, .val (.ref a), .val (.int (2 : Int32)), .unset, .unset]) rfl q) ?_
          show Go _ _ _ _ _ _ _ (T54.setTop (mkF m 241 #[.val (.int x1), .val (.int x2), .val (.int x3), .val (.int x4), .val (.int x5), .val (.long x6), .second, .val (.ref b1), .val (.ref s1), .val (.ref b2), .val (.ref s2), .val (.ref b3), .val (.ref s3), .val (.ref n1), .val (.ref n2), .val (.int (1 : Int32)), .val (.int (1 : Int32)), .val zJ49_0, .val zJ50_0, .val (.ref a), .val (.int (2 : Int32)), .unset, .unset] []))
          refine Go.of (fun _ q => XS.iload X54.here hx rfl (hb hby at_241) rfl q) ?_
          show Go _ _ _ _ _ _ _ (T54.setTop (mkF m 243 #[.val (.int x1), .val (.int x2), .val (.int x3), .val (.int x4), .val (.int x5), .val (.long x6), .second, .val (.ref b1), .val (.ref s1), .val (.ref b2), .val (.ref s2), .val (.ref b3), .val (.ref s3), .val (.ref n1), .val (.ref n2), .val (.int (1 : Int32)), .val (.int (1 : Int32)), .val zJ49_0, .val zJ50_0, .val (.ref a), .val (.int (2 : Int32)), .unset, .unset] [(.int (1 : Int32))]))
          refine Go.of (fun _ q => XS.ifNo X54.here hx rfl (hb hby at_243) rfl ((if0 _ _).trans (feq (by decide)).1) q) ?_
          show Go _ _ _ _ _ _ _ (T54.setTop (mkF m 246 #[.val (.int x1), .val (.int x2), .val (.int x3), .val (.int x4), .val (.int x5), .val (.long x6), .second, .val (.ref b1), .val (.ref s1), .val (.ref b2), .val (.ref s2), .val (.ref b3), .val (.ref s3), .val (.ref n1), .val (.ref n2), .val (.int (1 : Int32)), .val (.int (1 : Int32)), .val zJ49_0, .val zJ50_0, .val (.ref a), .val (.int (2 : Int32)), .unset, .unset] []))
          refine Go.of (fun _ q => XS.aload X54.here hx rfl (hb hby at_246) rfl rzJ49_0 q) ?_
          show Go _ _ _ _ _ _ _ (T54.setTop (mkF m 248 #[.val (.int x1), .val (.int x2), .val (.int x3), .val (.int x4), .val (.int x5), .val (.long x6), .second, .val (.ref b1), .val (.ref s1), .val (.ref b2), .val (.ref s2), .val (.ref b3), .val (.ref s3), .val (.ref n1), .val (.ref n2), .val (.int (1 : Int32)), .val (.int (1 : Int32)), .val zJ49_0, .val zJ50_0, .val (.ref a), .val (.int (2 : Int32)), .unset, .unset] [zJ49_0]))
          refine Go.of (fun _ q => XS.goto X54.here hx rfl (pc0 := 248) (pc' := 262) rfl (hb hby at_248) (by decide) (by decide) q) ?_
          show Go _ _ _ _ _ _ _ (T54.setTop (mkF m 262 #[.val (.int x1), .val (.int x2), .val (.int x3), .val (.int x4), .val (.int x5), .val (.long x6), .second, .val (.ref b1), .val (.ref s1), .val (.ref b2), .val (.ref s2), .val (.ref b3), .val (.ref s3), .val (.ref n1), .val (.ref n2), .val (.int (1 : Int32)), .val (.int (1 : Int32)), .val zJ49_0, .val zJ50_0, .val (.ref a), .val (.int (2 : Int32)), .unset, .unset] [zJ49_0]))
          refine Go.of (fun _ q => XS.astore X54.here hx rfl (hb hby at_262) rfl rzJ49_0 (l' := #[.val (.int x1), .val (.int x2), .val (.int x3), .val (.int x4), .val (.int x5), .val (.long x6), .second, .val (.ref b1), .val (.ref s1), .val (.ref b2), .val (.ref s2), .val (.ref b3), .val (.ref s3), .val (.ref n1), .val (.ref n2), .val (.int (1 : Int32)), .val (.int (1 : Int32)), .val zJ49_0, .val zJ50_0, .val (.ref a), .val (.int (2 : Int32)), .val zJ49_0, .unset]) (by first | rfl | (cases zJ49_0 <;> first | rfl | (simp [Value.isRef] at rzJ49_0; done))) q) ?_
          show Go _ _ _ _ _ _ _ (T54.setTop (mkF m 264 #[.val (.int x1), .val (.int x2), .val (.int x3), .val (.int x4), .val (.int x5), .val (.long x6), .second, .val (.ref b1), .val (.ref s1), .val (.ref b2), .val (.ref s2), .val (.ref b3), .val (.ref s3), .val (.ref n1), .val (.ref n2), .val (.int (1 : Int32)), .val (.int (1 : Int32)), .val zJ49_0, .val zJ50_0, .val (.ref a), .val (.int (2 : Int32)), .val zJ49_0, .unset] []))
          refine Go.of (fun _ q => XS.iload X54.here hx rfl (hb hby at_264) rfl q) ?_
          show Go _ _ _ _ _ _ _ (T54.setTop (mkF m 266 #[.val (.int x1), .val (.int x2), .val (.int x3), .val (.int x4), .val (.int x5), .val (.long x6), .second, .val (.ref b1), .val (.ref s1), .val (.ref b2), .val (.ref s2), .val (.ref b3), .val (.ref s3), .val (.ref n1), .val (.ref n2), .val (.int (1 : Int32)), .val (.int (1 : Int32)), .val zJ49_0, .val zJ50_0, .val (.ref a), .val (.int (2 : Int32)), .val zJ49_0, .unset] [(.int (1 : Int32))]))
          refine Go.of (fun _ q => XS.ifNo X54.here hx rfl (hb hby at_266) rfl ((if0 _ _).trans (feq (by decide)).1) q) ?_
          show Go _ _ _ _ _ _ _ (T54.setTop (mkF m 269 #[.val (.int x1), .val (.int x2), .val (.int x3), .val (.int x4), .val (.int x5), .val (.long x6), .second, .val (.ref b1), .val (.ref s1), .val (.ref b2), .val (.ref s2), .val (.ref b3), .val (.ref s3), .val (.ref n1), .val (.ref n2), .val (.int (1 : Int32)), .val (.int (1 : Int32)), .val zJ49_0, .val zJ50_0, .val (.ref a), .val (.int (2 : Int32)), .val zJ49_0, .unset] []))
          refine Go.of (fun _ q => XS.aload X54.here hx rfl (hb hby at_269) rfl rzJ50_0 q) ?_
          show Go _ _ _ _ _ _ _ (T54.setTop (mkF m 271 #[.val (.int x1), .val (.int x2), .val (.int x3), .val (.int x4), .val (.int x5), .val (.long x6), .second, .val (.ref b1), .val (.ref s1), .val (.ref b2), .val (.ref s2), .val (.ref b3), .val (.ref s3), .val (.ref n1), .val (.ref n2), .val (.int (1 : Int32)), .val (.int (1 : Int32)), .val zJ49_0, .val zJ50_0, .val (.ref a), .val (.int (2 : Int32)), .val zJ49_0, .unset] [zJ50_0]))
          refine Go.of (fun _ q => XS.goto X54.here hx rfl (pc0 := 271) (pc' := 285) rfl (hb hby at_271) (by decide) (by decide) q) ?_
          show Go _ _ _ _ _ _ _ (T54.setTop (mkF m 285 #[.val (.int x1), .val (.int x2), .val (.int x3), .val (.int x4), .val (.int x5), .val (.long x6), .second, .val (.ref b1), .val (.ref s1), .val (.ref b2), .val (.ref s2), .val (.ref b3), .val (.ref s3), .val (.ref n1), .val (.ref n2), .val (.int (1 : Int32)), .val (.int (1 : Int32)), .val zJ49_0, .val zJ50_0, .val (.ref a), .val (.int (2 : Int32)), .val zJ49_0, .unset] [zJ50_0]))
          refine Go.of (fun _ q => XS.astore X54.here hx rfl (hb hby at_285) rfl rzJ50_0 (l' := #[.val (.int x1), .val (.int x2), .val (.int x3), .val (.int x4), .val (.int x5), .val (.long x6), .second, .val (.ref b1), .val (.ref s1), .val (.ref b2), .val (.ref s2), .val (.ref b3), .val (.ref s3), .val (.ref n1), .val (.ref n2), .val (.int (1 : Int32)), .val (.int (1 : Int32)), .val zJ49_0, .val zJ50_0, .val (.ref a), .val (.int (2 : Int32)), .val zJ49_0, .val zJ50_0]) (by first | rfl | (cases zJ50_0 <;> first | rfl | (simp [Value.isRef] at rzJ50_0; done))) q) ?_
          show Go _ _ _ _ _ _ _ (T54.setTop (mkF m 287 #[.val (.int x1), .val (.int x2), .val (.int x3), .val (.int x4), .val (.int x5), .val (.long x6), .second, .val (.ref b1), .val (.ref s1), .val (.ref b2), .val (.ref s2), .val (.ref b3), .val (.ref s3), .val (.ref n1), .val (.ref n2), .val (.int (1 : Int32)), .val (.int (1 : Int32)), .val zJ49_0, .val zJ50_0, .val (.ref a), .val (.int (2 : Int32)), .val zJ49_0, .val zJ50_0] []))
          refine Go.of (fun _ q => XS.aload X54.here hx rfl (hb hby at_287) rfl rfl q) ?_
          show Go _ _ _ _ _ _ _ (T54.setTop (mkF m 289 #[.val (.int x1), .val (.int x2), .val (.int x3), .val (.int x4), .val (.int x5), .val (.long x6), .second, .val (.ref b1), .val (.ref s1), .val (.ref b2), .val (.ref s2), .val (.ref b3), .val (.ref s3), .val (.ref n1), .val (.ref n2), .val (.int (1 : Int32)), .val (.int (1 : Int32)), .val zJ49_0, .val zJ50_0, .val (.ref a), .val (.int (2 : Int32)), .val zJ49_0, .val zJ50_0] [(.ref a)]))
          refine Go.virtual X54 hx hZ (y := (⟨"com/example/lane/lane/AccessRecord", "attempts", "()I"⟩ : MethodName)) (z := (⟨"com/example/lane/lane/AccessRecord", "attempts", "()I"⟩ : MethodName)) (a := a) (argsL := []) hown (hw _ (List.mem_of_getElem? (i := 57) rfl)) (hw _ (List.mem_of_getElem? (i := 58) rfl)) (notFace_of_selects (args := #[]) (mvT hZ (hw _ (List.mem_of_getElem? (i := 60) rfl)))) (hw _ (List.mem_of_getElem? (i := 60) rfl)) (hw _ (List.mem_of_getElem? (i := 59) rfl)) (hw _ (List.mem_of_getElem? (i := 48) rfl)) (hw _ (List.mem_of_getElem? (i := 61) rfl)) (by decide) 0 rfl E_a (rm10 l Z a0 hw a (((0 : Int32) + (1 : Int32)) + (1 : Int32)) T54.heap n0 Zs F_a_attempts) (by decide) (by decide) (by decide) (by decide) (g := (mkF m 289 #[.val (.int x1), .val (.int x2), .val (.int x3), .val (.int x4), .val (.int x5), .val (.long x6), .second, .val (.ref b1), .val (.ref s1), .val (.ref b2), .val (.ref s2), .val (.ref b3), .val (.ref s3), .val (.ref n1), .val (.ref n2), .val (.int (1 : Int32)), .val (.int (1 : Int32)), .val zJ49_0, .val zJ50_0, .val (.ref a), .val (.int (2 : Int32)), .val zJ49_0, .val zJ50_0] [(.ref a)])) rfl (by rw [hml]; rfl) (rest := []) (lenOf pd8 rfl) rfl (by show 2 * 0 + _ ≤ _; exact Nat.le_of_eq rfl) (hb hby at_289) ?_
          intro T55 v55 L55 X55 q55
          obtain ⟨rfl, Nq55, e55⟩ := q55
          have N55 := Fr.app N54 Nq55
          show Go _ _ _ _ _ _ _ (T55.setTop (mkF m 292 #[.val (.int x1), .val (.int x2), .val (.int x3), .val (.int x4), .val (.int x5), .val (.long x6), .second, .val (.ref b1), .val (.ref s1), .val (.ref b2), .val (.ref s2), .val (.ref b3), .val (.ref s3), .val (.ref n1), .val (.ref n2), .val (.int (1 : Int32)), .val (.int (1 : Int32)), .val zJ49_0, .val zJ50_0, .val (.ref a), .val (.int (2 : Int32)), .val zJ49_0, .val zJ50_0] [(.int (((0 : Int32) + (1 : Int32)) + (1 : Int32)))]))
          refine Go.of (fun _ q => XS.iload X55.here hx rfl (hb hby at_292) rfl q) ?_
          show Go _ _ _ _ _ _ _ (T55.setTop (mkF m 294 #[.val (.int x1), .val (.int x2), .val (.int x3), .val (.int x4), .val (.int x5), .val (.long x6), .second, .val (.ref b1), .val (.ref s1), .val (.ref b2), .val (.ref s2), .val (.ref b3), .val (.ref s3), .val (.ref n1), .val (.ref n2), .val (.int (1 : Int32)), .val (.int (1 : Int32)), .val zJ49_0, .val zJ50_0, .val (.ref a), .val (.int (2 : Int32)), .val zJ49_0, .val zJ50_0] [(.int (2 : Int32)), (.int (((0 : Int32) + (1 : Int32)) + (1 : Int32)))]))
          have J60 : ∀ (TJ60 : State) (lJ60 : List Loc) (zJ60_0 : Int32), Stand p l e room_1 s m #[(.int x1), (.int x2), (.int x3), (.int x4), (.int x5), (.long x6)] below meth c TJ60 lJ60 12 42 → TJ60.heap = T54.heap → Fr n0 lJ60 → zJ60_0 = (if (((0 : Int32) + (1 : Int32)) + (1 : Int32)) = (2 : Int32) then (1 : Int32) else (0 : Int32)) → Go p e below s room_1.cells room_1.slots (Q0 Z x1 x2 x3 x4 x5 x6 cs h0 n0) (TJ60.setTop (mkF m 341 #[.val (.int x1), .val (.int x2), .val (.int x3), .val (.int x4), .val (.int x5), .val (.long x6), .second, .val (.ref b1), .val (.ref s1), .val (.ref b2), .val (.ref s2), .val (.ref b3), .val (.ref s3), .val (.ref n1), .val (.ref n2), .val (.int (1 : Int32)), .val (.int (1 : Int32)), .val zJ49_0, .val zJ50_0, .val (.ref a), .val (.int (2 : Int32)), .val zJ49_0, .val zJ50_0] [(.int zJ60_0)])) := by
            intro TJ60 lJ60 zJ60_0 XJ60 eJ60 NJ60 hzJ60_0
            subst hzJ60_0
            show Go _ _ _ _ _ _ _ (TJ60.setTop (mkF m 341 #[.val (.int x1), .val (.int x2), .val (.int x3), .val (.int x4), .val (.int x5), .val (.long x6), .second, .val (.ref b1), .val (.ref s1), .val (.ref b2), .val (.ref s2), .val (.ref b3), .val (.ref s3), .val (.ref n1), .val (.ref n2), .val (.int (1 : Int32)), .val (.int (1 : Int32)), .val zJ49_0, .val zJ50_0, .val (.ref a), .val (.int (2 : Int32)), .val zJ49_0, .val zJ50_0] [(.int (if (((0 : Int32) + (1 : Int32)) + (1 : Int32)) = (2 : Int32) then (1 : Int32) else (0 : Int32)))]))
            refine Go.retN XJ60 hx hlk (t := .boolean) hret (by simp) (hb hby at_341) (by first | rfl | (split <;> rfl) | (repeat' split) <;> rfl) (by decide) (by decide) ?_
            rw [eJ60]
            exact ⟨rfl, NJ60⟩
          by_cases c294 : (((0 : Int32) + (1 : Int32)) + (1 : Int32)) = (2 : Int32)
          · refine Go.of (fun _ q => XS.icmpNo X55.here hx rfl (hb hby at_294) rfl (teq c294).2 q) ?_
            show Go _ _ _ _ _ _ _ (T55.setTop (mkF m 297 #[.val (.int x1), .val (.int x2), .val (.int x3), .val (.int x4), .val (.int x5), .val (.long x6), .second, .val (.ref b1), .val (.ref s1), .val (.ref b2), .val (.ref s2), .val (.ref b3), .val (.ref s3), .val (.ref n1), .val (.ref n2), .val (.int (1 : Int32)), .val (.int (1 : Int32)), .val zJ49_0, .val zJ50_0, .val (.ref a), .val (.int (2 : Int32)), .val zJ49_0, .val zJ50_0] []))
            refine Go.of (fun _ q => XS.aload X55.here hx rfl (hb hby at_297) rfl rfl q) ?_
            show Go _ _ _ _ _ _ _ (T55.setTop (mkF m 299 #[.val (.int x1), .val (.int x2), .val (.int x3), .val (.int x4), .val (.int x5), .val (.long x6), .second, .val (.ref b1), .val (.ref s1), .val (.ref b2), .val (.ref s2), .val (.ref b3), .val (.ref s3), .val (.ref n1), .val (.ref n2), .val (.int (1 : Int32)), .val (.int (1 : Int32)), .val zJ49_0, .val zJ50_0, .val (.ref a), .val (.int (2 : Int32)), .val zJ49_0, .val zJ50_0] [(.ref a)]))
            refine Go.virtual X55 hx hZ (y := (⟨"com/example/lane/lane/AccessRecord", "upstream", "()Ljava/lang/String;"⟩ : MethodName)) (z := (⟨"com/example/lane/lane/AccessRecord", "upstream", "()Ljava/lang/String;"⟩ : MethodName)) (a := a) (argsL := []) hown (hw _ (List.mem_of_getElem? (i := 64) rfl)) (hw _ (List.mem_of_getElem? (i := 65) rfl)) (notFace_of_selects (args := #[]) (mvT hZ (hw _ (List.mem_of_getElem? (i := 67) rfl)))) (hw _ (List.mem_of_getElem? (i := 67) rfl)) (hw _ (List.mem_of_getElem? (i := 66) rfl)) (hw _ (List.mem_of_getElem? (i := 48) rfl)) (hw _ (List.mem_of_getElem? (i := 68) rfl)) (by decide) 0 e55 E_a (rm11 l Z a0 hw a zJ49_0 rzJ49_0 T54.heap n0 Zs F_a_upstream) (by decide) (by decide) (by decide) (by decide) (g := (mkF m 299 #[.val (.int x1), .val (.int x2), .val (.int x3), .val (.int x4), .val (.int x5), .val (.long x6), .second, .val (.ref b1), .val (.ref s1), .val (.ref b2), .val (.ref s2), .val (.ref b3), .val (.ref s3), .val (.ref n1), .val (.ref n2), .val (.int (1 : Int32)), .val (.int (1 : Int32)), .val zJ49_0, .val zJ50_0, .val (.ref a), .val (.int (2 : Int32)), .val zJ49_0, .val zJ50_0] [(.ref a)])) rfl (by rw [hml]; rfl) (rest := []) (lenOf pd9 rfl) rfl (by show 2 * 0 + _ ≤ _; exact Nat.le_of_eq rfl) (hb hby at_299) ?_
            intro T56 v56 L56 X56 q56
            obtain ⟨rfl, Nq56, e56⟩ := q56
            have N56 := Fr.app N55 Nq56
            show Go _ _ _ _ _ _ _ (T56.setTop (mkF m 302 #[.val (.int x1), .val (.int x2), .val (.int x3), .val (.int x4), .val (.int x5), .val (.long x6), .second, .val (.ref b1), .val (.ref s1), .val (.ref b2), .val (.ref s2), .val (.ref b3), .val (.ref s3), .val (.ref n1), .val (.ref n2), .val (.int (1 : Int32)), .val (.int (1 : Int32)), .val zJ49_0, .val zJ50_0, .val (.ref a), .val (.int (2 : Int32)), .val zJ49_0, .val zJ50_0] [zJ49_0]))
            refine Go.of (fun _ q => XS.aload X56.here hx rfl (hb hby at_302) rfl rzJ49_0 q) ?_
            show Go _ _ _ _ _ _ _ (T56.setTop (mkF m 304 #[.val (.int x1), .val (.int x2), .val (.int x3), .val (.int x4), .val (.int x5), .val (.long x6), .second, .val (.ref b1), .val (.ref s1), .val (.ref b2), .val (.ref s2), .val (.ref b3), .val (.ref s3), .val (.ref n1), .val (.ref n2), .val (.int (1 : Int32)), .val (.int (1 : Int32)), .val zJ49_0, .val zJ50_0, .val (.ref a), .val (.int (2 : Int32)), .val zJ49_0, .val zJ50_0] [zJ49_0, zJ49_0]))
            refine Go.of (fun _ q => Jvm.RoadKit.acmp (g := (mkF m 304 #[.val (.int x1), .val (.int x2), .val (.int x3), .val (.int x4), .val (.int x5), .val (.long x6), .second, .val (.ref b1), .val (.ref s1), .val (.ref b2), .val (.ref s2), .val (.ref b3), .val (.ref s3), .val (.ref n1), .val (.ref n2), .val (.int (1 : Int32)), .val (.int (1 : Int32)), .val zJ49_0, .val zJ50_0, .val (.ref a), .val (.int (2 : Int32)), .val zJ49_0, .val zJ50_0] [zJ49_0, zJ49_0])) X56 hx rfl rzJ49_0 rzJ49_0 (pc0 := 304) (pc' := 307) (same := true) rfl (hb hby at_304) rfl (decide_eq_true rfl) (by decide) (by decide) q) ?_
            show Go _ _ _ _ _ _ _ (T56.setTop (mkF m 307 #[.val (.int x1), .val (.int x2), .val (.int x3), .val (.int x4), .val (.int x5), .val (.long x6), .second, .val (.ref b1), .val (.ref s1), .val (.ref b2), .val (.ref s2), .val (.ref b3), .val (.ref s3), .val (.ref n1), .val (.ref n2), .val (.int (1 : Int32)), .val (.int (1 : Int32)), .val zJ49_0, .val zJ50_0, .val (.ref a), .val (.int (2 : Int32)), .val zJ49_0, .val zJ50_0] []))
            refine Go.of (fun _ q => XS.aload X56.here hx rfl (hb hby at_307) rfl rfl q) ?_
            show Go _ _ _ _ _ _ _ (T56.setTop (mkF m 309 #[.val (.int x1), .val (.int x2), .val (.int x3), .val (.int x4), .val (.int x5), .val (.long x6), .second, .val (.ref b1), .val (.ref s1), .val (.ref b2), .val (.ref s2), .val (.ref b3), .val (.ref s3), .val (.ref n1), .val (.ref n2), .val (.int (1 : Int32)), .val (.int (1 : Int32)), .val zJ49_0, .val zJ50_0, .val (.ref a), .val (.int (2 : Int32)), .val zJ49_0, .val zJ50_0] [(.ref a)]))
            refine Go.virtual X56 hx hZ (y := (⟨"com/example/lane/lane/AccessRecord", "node", "()Lcom/example/lane/lane/config/HostPort;"⟩ : MethodName)) (z := (⟨"com/example/lane/lane/AccessRecord", "node", "()Lcom/example/lane/lane/config/HostPort;"⟩ : MethodName)) (a := a) (argsL := []) hown (hw _ (List.mem_of_getElem? (i := 71) rfl)) (hw _ (List.mem_of_getElem? (i := 72) rfl)) (notFace_of_selects (args := #[]) (mvT hZ (hw _ (List.mem_of_getElem? (i := 74) rfl)))) (hw _ (List.mem_of_getElem? (i := 74) rfl)) (hw _ (List.mem_of_getElem? (i := 73) rfl)) (hw _ (List.mem_of_getElem? (i := 48) rfl)) (hw _ (List.mem_of_getElem? (i := 75) rfl)) (by decide) 0 e56 E_a (rm12 l Z a0 hw a zJ50_0 rzJ50_0 T54.heap n0 Zs F_a_node) (by decide) (by decide) (by decide) (by decide) (g := (mkF m 309 #[.val (.int x1), .val (.int x2), .val (.int x3), .val (.int x4), .val (.int x5), .val (.long x6), .second, .val (.ref b1), .val (.ref s1), .val (.ref b2), .val (.ref s2), .val (.ref b3), .val (.ref s3), .val (.ref n1), .val (.ref n2), .val (.int (1 : Int32)), .val (.int (1 : Int32)), .val zJ49_0, .val zJ50_0, .val (.ref a), .val (.int (2 : Int32)), .val zJ49_0, .val zJ50_0] [(.ref a)])) rfl (by rw [hml]; rfl) (rest := []) (lenOf pd10 rfl) rfl (by show 2 * 0 + _ ≤ _; exact Nat.le_of_eq rfl) (hb hby at_309) ?_
            intro T57 v57 L57 X57 q57
            obtain ⟨rfl, Nq57, e57⟩ := q57
            have N57 := Fr.app N56 Nq57
            show Go _ _ _ _ _ _ _ (T57.setTop (mkF m 312 #[.val (.int x1), .val (.int x2), .val (.int x3), .val (.int x4), .val (.int x5), .val (.long x6), .second, .val (.ref b1), .val (.ref s1), .val (.ref b2), .val (.ref s2), .val (.ref b3), .val (.ref s3), .val (.ref n1), .val (.ref n2), .val (.int (1 : Int32)), .val (.int (1 : Int32)), .val zJ49_0, .val zJ50_0, .val (.ref a), .val (.int (2 : Int32)), .val zJ49_0, .val zJ50_0] [zJ50_0]))
            refine Go.of (fun _ q => XS.aload X57.here hx rfl (hb hby at_312) rfl rzJ50_0 q) ?_
            show Go _ _ _ _ _ _ _ (T57.setTop (mkF m 314 #[.val (.int x1), .val (.int x2), .val (.int x3), .val (.int x4), .val (.int x5), .val (.long x6), .second, .val (.ref b1), .val (.ref s1), .val (.ref b2), .val (.ref s2), .val (.ref b3), .val (.ref s3), .val (.ref n1), .val (.ref n2), .val (.int (1 : Int32)), .val (.int (1 : Int32)), .val zJ49_0, .val zJ50_0, .val (.ref a), .val (.int (2 : Int32)), .val zJ49_0, .val zJ50_0] [zJ50_0, zJ50_0]))
            refine Go.of (fun _ q => Jvm.RoadKit.acmp (g := (mkF m 314 #[.val (.int x1), .val (.int x2), .val (.int x3), .val (.int x4), .val (.int x5), .val (.long x6), .second, .val (.ref b1), .val (.ref s1), .val (.ref b2), .val (.ref s2), .val (.ref b3), .val (.ref s3), .val (.ref n1), .val (.ref n2), .val (.int (1 : Int32)), .val (.int (1 : Int32)), .val zJ49_0, .val zJ50_0, .val (.ref a), .val (.int (2 : Int32)), .val zJ49_0, .val zJ50_0] [zJ50_0, zJ50_0])) X57 hx rfl rzJ50_0 rzJ50_0 (pc0 := 314) (pc' := 317) (same := true) rfl (hb hby at_314) rfl (decide_eq_true rfl) (by decide) (by decide) q) ?_
            show Go _ _ _ _ _ _ _ (T57.setTop (mkF m 317 #[.val (.int x1), .val (.int x2), .val (.int x3), .val (.int x4), .val (.int x5), .val (.long x6), .second, .val (.ref b1), .val (.ref s1), .val (.ref b2), .val (.ref s2), .val (.ref b3), .val (.ref s3), .val (.ref n1), .val (.ref n2), .val (.int (1 : Int32)), .val (.int (1 : Int32)), .val zJ49_0, .val zJ50_0, .val (.ref a), .val (.int (2 : Int32)), .val zJ49_0, .val zJ50_0] []))
            refine Go.of (fun _ q => XS.aload X57.here hx rfl (hb hby at_317) rfl rfl q) ?_
            show Go _ _ _ _ _ _ _ (T57.setTop (mkF m 319 #[.val (.int x1), .val (.int x2), .val (.int x3), .val (.int x4), .val (.int x5), .val (.long x6), .second, .val (.ref b1), .val (.ref s1), .val (.ref b2), .val (.ref s2), .val (.ref b3), .val (.ref s3), .val (.ref n1), .val (.ref n2), .val (.int (1 : Int32)), .val (.int (1 : Int32)), .val zJ49_0, .val zJ50_0, .val (.ref a), .val (.int (2 : Int32)), .val zJ49_0, .val zJ50_0] [(.ref a)]))
            refine Go.virtual X57 hx hZ (y := (⟨"com/example/lane/lane/AccessRecord", "status", "()I"⟩ : MethodName)) (z := (⟨"com/example/lane/lane/AccessRecord", "status", "()I"⟩ : MethodName)) (a := a) (argsL := []) hown (hw _ (List.mem_of_getElem? (i := 78) rfl)) (hw _ (List.mem_of_getElem? (i := 79) rfl)) (notFace_of_selects (args := #[]) (mvT hZ (hw _ (List.mem_of_getElem? (i := 81) rfl)))) (hw _ (List.mem_of_getElem? (i := 81) rfl)) (hw _ (List.mem_of_getElem? (i := 80) rfl)) (hw _ (List.mem_of_getElem? (i := 48) rfl)) (hw _ (List.mem_of_getElem? (i := 82) rfl)) (by decide) 0 e57 E_a (rm13 l Z a0 hw a T54.heap n0 Zs F_a_status) (by decide) (by decide) (by decide) (by decide) (g := (mkF m 319 #[.val (.int x1), .val (.int x2), .val (.int x3), .val (.int x4), .val (.int x5), .val (.long x6), .second, .val (.ref b1), .val (.ref s1), .val (.ref b2), .val (.ref s2), .val (.ref b3), .val (.ref s3), .val (.ref n1), .val (.ref n2), .val (.int (1 : Int32)), .val (.int (1 : Int32)), .val zJ49_0, .val zJ50_0, .val (.ref a), .val (.int (2 : Int32)), .val zJ49_0, .val zJ50_0] [(.ref a)])) rfl (by rw [hml]; rfl) (rest := []) (lenOf pd8 rfl) rfl (by show 2 * 0 + _ ≤ _; exact Nat.le_of_eq rfl) (hb hby at_319) ?_
            intro T58 v58 L58 X58 q58
            obtain ⟨rfl, Nq58, e58⟩ := q58
            have N58 := Fr.app N57 Nq58
            show Go _ _ _ _ _ _ _ (T58.setTop (mkF m 322 #[.val (.int x1), .val (.int x2), .val (.int x3), .val (.int x4), .val (.int x5), .val (.long x6), .second, .val (.ref b1), .val (.ref s1), .val (.ref b2), .val (.ref s2), .val (.ref b3), .val (.ref s3), .val (.ref n1), .val (.ref n2), .val (.int (1 : Int32)), .val (.int (1 : Int32)), .val zJ49_0, .val zJ50_0, .val (.ref a), .val (.int (2 : Int32)), .val zJ49_0, .val zJ50_0] [(.int (499 : Int32))]))
            refine Go.of (fun _ q => XS.sipush X58.here hx rfl (hb hby at_322) q) ?_
            show Go _ _ _ _ _ _ _ (T58.setTop (mkF m 325 #[.val (.int x1), .val (.int x2), .val (.int x3), .val (.int x4), .val (.int x5), .val (.long x6), .second, .val (.ref b1), .val (.ref s1), .val (.ref b2), .val (.ref s2), .val (.ref b3), .val (.ref s3), .val (.ref n1), .val (.ref n2), .val (.int (1 : Int32)), .val (.int (1 : Int32)), .val zJ49_0, .val zJ50_0, .val (.ref a), .val (.int (2 : Int32)), .val zJ49_0, .val zJ50_0] [(.int (499 : Int32)), (.int (499 : Int32))]))
            refine Go.of (fun _ q => XS.icmpNo X58.here hx rfl (hb hby at_325) rfl (teq rfl).2 q) ?_
            show Go _ _ _ _ _ _ _ (T58.setTop (mkF m 328 #[.val (.int x1), .val (.int x2), .val (.int x3), .val (.int x4), .val (.int x5), .val (.long x6), .second, .val (.ref b1), .val (.ref s1), .val (.ref b2), .val (.ref s2), .val (.ref b3), .val (.ref s3), .val (.ref n1), .val (.ref n2), .val (.int (1 : Int32)), .val (.int (1 : Int32)), .val zJ49_0, .val zJ50_0, .val (.ref a), .val (.int (2 : Int32)), .val zJ49_0, .val zJ50_0] []))
            refine Go.of (fun _ q => XS.aload X58.here hx rfl (hb hby at_328) rfl rfl q) ?_
            show Go _ _ _ _ _ _ _ (T58.setTop (mkF m 330 #[.val (.int x1), .val (.int x2), .val (.int x3), .val (.int x4), .val (.int x5), .val (.long x6), .second, .val (.ref b1), .val (.ref s1), .val (.ref b2), .val (.ref s2), .val (.ref b3), .val (.ref s3), .val (.ref n1), .val (.ref n2), .val (.int (1 : Int32)), .val (.int (1 : Int32)), .val zJ49_0, .val zJ50_0, .val (.ref a), .val (.int (2 : Int32)), .val zJ49_0, .val zJ50_0] [(.ref a)]))
            refine Go.virtual X58 hx hZ (y := (⟨"com/example/lane/lane/AccessRecord", "route", "()Ljava/lang/String;"⟩ : MethodName)) (z := (⟨"com/example/lane/lane/AccessRecord", "route", "()Ljava/lang/String;"⟩ : MethodName)) (a := a) (argsL := []) hown (hw _ (List.mem_of_getElem? (i := 85) rfl)) (hw _ (List.mem_of_getElem? (i := 86) rfl)) (notFace_of_selects (args := #[]) (mvT hZ (hw _ (List.mem_of_getElem? (i := 88) rfl)))) (hw _ (List.mem_of_getElem? (i := 88) rfl)) (hw _ (List.mem_of_getElem? (i := 87) rfl)) (hw _ (List.mem_of_getElem? (i := 48) rfl)) (hw _ (List.mem_of_getElem? (i := 89) rfl)) (by decide) 0 e58 E_a (rm14 l Z a0 hw a T54.heap n0 Zs F_a_route) (by decide) (by decide) (by decide) (by decide) (g := (mkF m 330 #[.val (.int x1), .val (.int x2), .val (.int x3), .val (.int x4), .val (.int x5), .val (.long x6), .second, .val (.ref b1), .val (.ref s1), .val (.ref b2), .val (.ref s2), .val (.ref b3), .val (.ref s3), .val (.ref n1), .val (.ref n2), .val (.int (1 : Int32)), .val (.int (1 : Int32)), .val zJ49_0, .val zJ50_0, .val (.ref a), .val (.int (2 : Int32)), .val zJ49_0, .val zJ50_0] [(.ref a)])) rfl (by rw [hml]; rfl) (rest := []) (lenOf pd9 rfl) rfl (by show 2 * 0 + _ ≤ _; exact Nat.le_of_eq rfl) (hb hby at_330) ?_
            intro T59 v59 L59 X59 q59
            obtain ⟨rfl, Nq59, e59⟩ := q59
            have N59 := Fr.app N58 Nq59
            show Go _ _ _ _ _ _ _ (T59.setTop (mkF m 333 #[.val (.int x1), .val (.int x2), .val (.int x3), .val (.int x4), .val (.int x5), .val (.long x6), .second, .val (.ref b1), .val (.ref s1), .val (.ref b2), .val (.ref s2), .val (.ref b3), .val (.ref s3), .val (.ref n1), .val (.ref n2), .val (.int (1 : Int32)), .val (.int (1 : Int32)), .val zJ49_0, .val zJ50_0, .val (.ref a), .val (.int (2 : Int32)), .val zJ49_0, .val zJ50_0] [.null]))
            refine Go.of (fun _ q => XS.ifnonnullNo X59.here hx rfl (hb hby at_333) rfl q) ?_
            show Go _ _ _ _ _ _ _ (T59.setTop (mkF m 336 #[.val (.int x1), .val (.int x2), .val (.int x3), .val (.int x4), .val (.int x5), .val (.long x6), .second, .val (.ref b1), .val (.ref s1), .val (.ref b2), .val (.ref s2), .val (.ref b3), .val (.ref s3), .val (.ref n1), .val (.ref n2), .val (.int (1 : Int32)), .val (.int (1 : Int32)), .val zJ49_0, .val zJ50_0, .val (.ref a), .val (.int (2 : Int32)), .val zJ49_0, .val zJ50_0] []))
            refine Go.of (fun _ q => XS.iconst X59.here hx rfl (hb hby at_336) q) ?_
            show Go _ _ _ _ _ _ _ (T59.setTop (mkF m 337 #[.val (.int x1), .val (.int x2), .val (.int x3), .val (.int x4), .val (.int x5), .val (.long x6), .second, .val (.ref b1), .val (.ref s1), .val (.ref b2), .val (.ref s2), .val (.ref b3), .val (.ref s3), .val (.ref n1), .val (.ref n2), .val (.int (1 : Int32)), .val (.int (1 : Int32)), .val zJ49_0, .val zJ50_0, .val (.ref a), .val (.int (2 : Int32)), .val zJ49_0, .val zJ50_0] [(.int (1 : Int32))]))
            refine Go.of (fun _ q => XS.goto X59.here hx rfl (pc0 := 337) (pc' := 341) rfl (hb hby at_337) (by decide) (by decide) q) ?_
            show Go _ _ _ _ _ _ _ (T59.setTop (mkF m 341 #[.val (.int x1), .val (.int x2), .val (.int x3), .val (.int x4), .val (.int x5), .val (.long x6), .second, .val (.ref b1), .val (.ref s1), .val (.ref b2), .val (.ref s2), .val (.ref b3), .val (.ref s3), .val (.ref n1), .val (.ref n2), .val (.int (1 : Int32)), .val (.int (1 : Int32)), .val zJ49_0, .val zJ50_0, .val (.ref a), .val (.int (2 : Int32)), .val zJ49_0, .val zJ50_0] [(.int (1 : Int32))]))
            exact J60 T59 _ _ (pad X59 (by decide) (by decide)) e59 N59 (by rw [if_pos c294])
          · refine Go.of (fun _ q => XS.icmpYes X55.here hx rfl (pc0 := 294) (pc' := 340) rfl (hb hby at_294) rfl (feq c294).2 (by decide) (by decide) q) ?_
            show Go _ _ _ _ _ _ _ (T55.setTop (mkF m 340 #[.val (.int x1), .val (.int x2), .val (.int x3), .val (.int x4), .val (.int x5), .val (.long x6), .second, .val (.ref b1), .val (.ref s1), .val (.ref b2), .val (.ref s2), .val (.ref b3), .val (.ref s3), .val (.ref n1), .val (.ref n2), .val (.int (1 : Int32)), .val (.int (1 : Int32)), .val zJ49_0, .val zJ50_0, .val (.ref a), .val (.int (2 : Int32)), .val zJ49_0, .val zJ50_0] []))
            refine Go.of (fun _ q => XS.iconst X55.here hx rfl (hb hby at_340) q) ?_
            show Go _ _ _ _ _ _ _ (T55.setTop (mkF m 341 #[.val (.int x1), .val (.int x2), .val (.int x3), .val (.int x4), .val (.int x5), .val (.long x6), .second, .val (.ref b1), .val (.ref s1), .val (.ref b2), .val (.ref s2), .val (.ref b3), .val (.ref s3), .val (.ref n1), .val (.ref n2), .val (.int (1 : Int32)), .val (.int (1 : Int32)), .val zJ49_0, .val zJ50_0, .val (.ref a), .val (.int (2 : Int32)), .val zJ49_0, .val zJ50_0] [(.int (0 : Int32))]))
            exact J60 T55 _ _ (pad X55 (by decide) (by decide)) e55 N55 (by rw [if_neg c294])
        by_cases c166 : (x5 &&& (8 : Int32)) = (0 : Int32)
        · refine Go.of (fun _ q => XS.ifYes X17.here hx rfl (pc0 := 166) (pc' := 173) rfl (hb hby at_166) rfl ((if0 _ _).trans (teq c166).1) (by decide) (by decide) q) ?_
          show Go _ _ _ _ _ _ _ (T17.setTop (mkF m 173 #[.val (.int x1), .val (.int x2), .val (.int x3), .val (.int x4), .val (.int x5), .val (.long x6), .second, .val (.ref b1), .val (.ref s1), .val (.ref b2), .val (.ref s2), .val (.ref b3), .val (.ref s3), .val (.ref n1), .val (.ref n2), .val (.int (1 : Int32)), .val (.int (1 : Int32)), .val zJ49_0, .unset, .unset, .unset, .unset, .unset] []))
          refine Go.of (fun _ q => XS.aload X17.here hx rfl (hb hby at_173) rfl rfl q) ?_
          show Go _ _ _ _ _ _ _ (T17.setTop (mkF m 175 #[.val (.int x1), .val (.int x2), .val (.int x3), .val (.int x4), .val (.int x5), .val (.long x6), .second, .val (.ref b1), .val (.ref s1), .val (.ref b2), .val (.ref s2), .val (.ref b3), .val (.ref s3), .val (.ref n1), .val (.ref n2), .val (.int (1 : Int32)), .val (.int (1 : Int32)), .val zJ49_0, .unset, .unset, .unset, .unset, .unset] [(.ref n2)]))
          exact J50 _ (by rw [if_pos c166]) rfl
        · refine Go.of (fun _ q => XS.ifNo X17.here hx rfl (hb hby at_166) rfl ((if0 _ _).trans (feq c166).1) q) ?_
          show Go _ _ _ _ _ _ _ (T17.setTop (mkF m 169 #[.val (.int x1), .val (.int x2), .val (.int x3), .val (.int x4), .val (.int x5), .val (.long x6), .second, .val (.ref b1), .val (.ref s1), .val (.ref b2), .val (.ref s2), .val (.ref b3), .val (.ref s3), .val (.ref n1), .val (.ref n2), .val (.int (1 : Int32)), .val (.int (1 : Int32)), .val zJ49_0, .unset, .unset, .unset, .unset, .unset] []))
          refine Go.of (fun _ q => XS.aconstNull X17.here hx rfl (hb hby at_169) q) ?_
          show Go _ _ _ _ _ _ _ (T17.setTop (mkF m 170 #[.val (.int x1), .val (.int x2), .val (.int x3), .val (.int x4), .val (.int x5), .val (.long x6), .second, .val (.ref b1), .val (.ref s1), .val (.ref b2), .val (.ref s2), .val (.ref b3), .val (.ref s3), .val (.ref n1), .val (.ref n2), .val (.int (1 : Int32)), .val (.int (1 : Int32)), .val zJ49_0, .unset, .unset, .unset, .unset, .unset] [.null]))
          refine Go.of (fun _ q => XS.goto X17.here hx rfl (pc0 := 170) (pc' := 175) rfl (hb hby at_170) (by decide) (by decide) q) ?_
          show Go _ _ _ _ _ _ _ (T17.setTop (mkF m 175 #[.val (.int x1), .val (.int x2), .val (.int x3), .val (.int x4), .val (.int x5), .val (.long x6), .second, .val (.ref b1), .val (.ref s1), .val (.ref b2), .val (.ref s2), .val (.ref b3), .val (.ref s3), .val (.ref n1), .val (.ref n2), .val (.int (1 : Int32)), .val (.int (1 : Int32)), .val zJ49_0, .unset, .unset, .unset, .unset, .unset] [.null]))
          exact J50 _ (by rw [if_neg c166]) rfl
      by_cases c150 : (x5 &&& (4 : Int32)) = (0 : Int32)
      · refine Go.of (fun _ q => XS.ifYes X17.here hx rfl (pc0 := 150) (pc' := 157) rfl (hb hby at_150) rfl ((if0 _ _).trans (teq c150).1) (by decide) (by decide) q) ?_
        show Go _ _ _ _ _ _ _ (T17.setTop (mkF m 157 #[.val (.int x1), .val (.int x2), .val (.int x3), .val (.int x4), .val (.int x5), .val (.long x6), .second, .val (.ref b1), .val (.ref s1), .val (.ref b2), .val (.ref s2), .val (.ref b3), .val (.ref s3), .val (.ref n1), .val (.ref n2), .val (.int (1 : Int32)), .val (.int (1 : Int32)), .unset, .unset, .unset, .unset, .unset, .unset] []))
        refine Go.of (fun _ q => XS.aload X17.here hx rfl (hb hby at_157) rfl rfl q) ?_
        show Go _ _ _ _ _ _ _ (T17.setTop (mkF m 159 #[.val (.int x1), .val (.int x2), .val (.int x3), .val (.int x4), .val (.int x5), .val (.long x6), .second, .val (.ref b1), .val (.ref s1), .val (.ref b2), .val (.ref s2), .val (.ref b3), .val (.ref s3), .val (.ref n1), .val (.ref n2), .val (.int (1 : Int32)), .val (.int (1 : Int32)), .unset, .unset, .unset, .unset, .unset, .unset] [(.ref s2)]))
        exact J49 _ (by rw [if_pos c150]) rfl
      · refine Go.of (fun _ q => XS.ifNo X17.here hx rfl (hb hby at_150) rfl ((if0 _ _).trans (feq c150).1) q) ?_
        show Go _ _ _ _ _ _ _ (T17.setTop (mkF m 153 #[.val (.int x1), .val (.int x2), .val (.int x3), .val (.int x4), .val (.int x5), .val (.long x6), .second, .val (.ref b1), .val (.ref s1), .val (.ref b2), .val (.ref s2), .val (.ref b3), .val (.ref s3), .val (.ref n1), .val (.ref n2), .val (.int (1 : Int32)), .val (.int (1 : Int32)), .unset, .unset, .unset, .unset, .unset, .unset] []))
        refine Go.of (fun _ q => XS.aconstNull X17.here hx rfl (hb hby at_153) q) ?_
        show Go _ _ _ _ _ _ _ (T17.setTop (mkF m 154 #[.val (.int x1), .val (.int x2), .val (.int x3), .val (.int x4), .val (.int x5), .val (.long x6), .second, .val (.ref b1), .val (.ref s1), .val (.ref b2), .val (.ref s2), .val (.ref b3), .val (.ref s3), .val (.ref n1), .val (.ref n2), .val (.int (1 : Int32)), .val (.int (1 : Int32)), .unset, .unset, .unset, .unset, .unset, .unset] [.null]))
        refine Go.of (fun _ q => XS.goto X17.here hx rfl (pc0 := 154) (pc' := 159) rfl (hb hby at_154) (by decide) (by decide) q) ?_
        show Go _ _ _ _ _ _ _ (T17.setTop (mkF m 159 #[.val (.int x1), .val (.int x2), .val (.int x3), .val (.int x4), .val (.int x5), .val (.long x6), .second, .val (.ref b1), .val (.ref s1), .val (.ref b2), .val (.ref s2), .val (.ref b3), .val (.ref s3), .val (.ref n1), .val (.ref n2), .val (.int (1 : Int32)), .val (.int (1 : Int32)), .unset, .unset, .unset, .unset, .unset, .unset] [.null]))
        exact J49 _ (by rw [if_neg c150]) rfl
set_option maxRecDepth 65536 in
set_option maxHeartbeats 40000000 in
theorem comes_1 {Post : Tables → Env → Array Value → State → Outcome → State → Prop} (hpost : ∀ tb e args s v u, (limb_1_1.after args s (.returned v) u = true ∧ limb_1_2.after args s (.returned v) u = true ∧ True) → FrameEnd s (.returned v) u (Jvm.fieldLocs frame_1_writes args s ++ Jvm.arrayLocs frame_1_arrays args s ++ Jvm.staticLocs frame_1_statics s) 32 192 → Post tb e args s (.returned v) u) :
    ArmFor flags0 classFile x code maxLocals ret World_1 tables_1 room_1 Calls_1 rest_1 Pre_1 Post := by
  intro l hfl _ _ p e ha hc hk s m args below hf hA hF happ hP
  obtain ⟨hcalls, hrest, hpre⟩ := hP
  obtain ⟨-, -, -, hnamed, -, -, -, hat⟩ := (Spec.applies_iff hf).mp happ
  obtain ⟨hg, hn⟩ := and_e (Cond.before_iff.mp (show (Jvm.Cond.and given_1 narrow_1).before args s = true from hpre))
  obtain ⟨g1, g2⟩ := and_e hg
  obtain ⟨g3, g4⟩ := and_e g2
  obtain ⟨g5, g6⟩ := and_e g4
  obtain ⟨g7, g8⟩ := and_e g6
  obtain ⟨g9, g10⟩ := and_e g8
  obtain ⟨g11, g12⟩ := and_e g10
  obtain ⟨w0, w1, w2, w3, w4, w5, rfl⟩ : ∃ w0 w1 w2 w3 w4 w5 : Value, args = #[w0, w1, w2, w3, w4, w5] := by
    have hs : args.size = 6 := by simpa [Cond.value, given_1] using g1
    obtain ⟨L⟩ := args
    match L, hs with
    | [w0, w1, w2, w3, w4, w5], _ => exact ⟨w0, w1, w2, w3, w4, w5, rfl⟩
  have hw := fun d (hd : d ∈ tables_1) => atoms_spec (ws := Jvm.Cond.code x code maxLocals ret :: tables_1) hat d (List.mem_cons_of_mem _ hd)
  have hfit : Fit s := fun {y c} hc i hi => by
    obtain ⟨ha, rfl⟩ := Array.getElem?_eq_some_iff.mp hc
    have q := List.all_eq_true.mp ((Array.all_eq_true_iff_forall_mem.mp hF) _ (Array.getElem_mem ha)) i (List.mem_range.mpr hi)
    simpa [Array.getElem?_eq_getElem hi] using q
  obtain ⟨hsets, hown0⟩ := atoms_of _ (rest_1_c_eq ▸ (show rest_1_c.before _ s = true from hrest))
  have hr0 := Cond.before_iff.mp hown0
  obtain ⟨i0, ei0⟩ := is_v g3
  obtain rfl : w0 = (.int i0) := Option.some.inj ei0
  obtain ⟨i1, ei1⟩ := is_v g5
  obtain rfl : w1 = (.int i1) := Option.some.inj ei1
  obtain ⟨i2, ei2⟩ := is_v g7
  obtain rfl : w2 = (.int i2) := Option.some.inj ei2
  obtain ⟨i3, ei3⟩ := is_v g9
  obtain rfl : w3 = (.int i3) := Option.some.inj ei3
  obtain ⟨i4, ei4⟩ := is_v g11
  obtain rfl : w4 = (.int i4) := Option.some.inj ei4
  obtain ⟨i5, ei5⟩ := isL_v g12
  obtain rfl : w5 = (.long i5) := Option.some.inj ei5
  obtain ⟨cs, ecs⟩ := is_v (Cond.before_iff.mp (hsets _ (List.mem_of_getElem? (i := 1) rfl)))
  have Scs := Sta.start ecs (Or.inl (hsets _ (List.mem_of_getElem? (i := 0) rfl)))
  have hcs := eqi_no (Cond.before_iff.mp (hsets _ (List.mem_of_getElem? (i := 2) rfl))) ecs
  obtain ⟨n, o, h1, h2, h3, _, L, rfl, ⟨rfl, N⟩, hq⟩ := rm0 l s _ hw i0 i1 i2 i3 i4 i5 cs s.heap s.heap.size (Nat.le_refl _) (Old.start s) Scs hcs tables_1 p e ha hc hk s m _ below hf ((Spec.applies_iff_loose hf).mp happ).1 ⟨rfl, State.Warmed39.refl s, rfl⟩ trivial
  refine ⟨n, _, h1, h2, h3, hpost _ _ _ _ _ _ ⟨Cond.after_iff.mpr rfl, Cond.after_iff.mpr (eq_i res_at (Term.int_eval (1)) rfl), trivial⟩ ⟨hq.1, hq.2.1, (hq.2.2.sift fun y hy => Or.inr (N y hy)).mono (by decide) (by decide)⟩⟩
theorem main_1_1 : Claimed_1_1 := comes_1 fun _ _ _ _ _ _ h hF => ⟨h.1, hF⟩
theorem main_1_2 : Claimed_1_2 := comes_1 fun _ _ _ _ _ _ h hF => ⟨h.2.1, hF⟩
end Jvm.Pilot.@@N@@
namespace Jvm.Pilot.@@N@@
open Jvm Jvm.ClassFile Sem Op Lib Jvm.Free Jvm.Stand Jvm.Pilot.@@N@@.Jvm.D
/-! MADE BY PROGRAM (witnessworld.py) out of the Statement's table words and the real class files: 22 classes; the members and pool entries that the words name. The judged class is class 1, her method 1. -/
namespace start1
open Jvm.ClassFile
def u (s : String) : CpInfo := .utf8 (stringToUtf16 s)
/-- a pool by its gaps: so many unusable entries, then the entry; so many at the end -/
def gap : Nat → List CpInfo → List CpInfo
  | 0, r => r
  | n + 1, r => .unusable :: gap n r
def poolList (es : List (Nat × CpInfo)) (last : Nat) : List CpInfo := es.foldr (fun e r => gap e.1 (e.2 :: r)) (gap last [])
def pool (es : List (Nat × CpInfo)) (last : Nat) : Array CpInfo := ⟨poolList es last⟩
def fileOf (pool : Array CpInfo) (this : Nat) (attrs : Array Attribute := #[]) (ms : Array MethodInfo := #[]) (fl : Nat := 33) (sup : Nat := 0) (ifs : Array Nat := #[]) (fds : Array FieldInfo := #[]) : ClassFile where
  minorVersion := 0
  majorVersion := 65
  constantPool := pool
  accessFlags := fl
  thisClass := this
  superClass := sup
  interfaces := ifs
  fields := fds
  methods := ms
  attributes := attrs
def plain (name : String) (sup : Option ClassId) : Class where
  name := name
  kind := .ordinary
  loader := none
  accessFlags := 33
  super := sup
  interfaces := #[]
  cf := none
  fields := #[]
  methods := #[]
  instanceTypes := #[]
  staticTypes := #[]
  resolved := #[]
  callSites := []
  init := .initialized
  statics := none
  mirror := none

def pool0 : Array CpInfo := pool [(5, u "<init>"), (0, u "()V"), (1, .class_ 10), (1, u "java/lang/Object")] 113

def k0c0 : Code := { maxStack := 0, maxLocals := 1, code := object_method_1_code, exceptionTable := #[], attributes := #[] }
def k0m0 : Method := { name := "<init>", desc := "()V", sig := { parameters := [], returnType := none }, accessFlags := 1, code := some k0c0 }
/-- java/lang/Object -/
def k0 : Class := { plain "java/lang/Object" none with
  accessFlags := 33
  interfaces := #[]
  cf := some (fileOf pool0 8 #[] #[{ accessFlags := 1, nameIndex := 5, descriptorIndex := 6, attributes := #[] }] 33 0 #[] #[])
  fields := #[]
  methods := #[k0m0]
  instanceTypes := #[]
  staticTypes := #[]
  resolved := Array.replicate 124 none
  statics := none }

def pool1 : Array CpInfo := pool [(2, .class_ 4), (1, u "java/lang/Object"), (0, u "<init>"), (0, u "()V"), (0, .class_ 8), (0, u "java/lang/String"), (0, .methodref 7 10), (0, .nameAndType 5 11), (0, u "([C)V"), (0, .class_ 13), (0, u "com/example/lane/lane/config/HostPort"), (0, .methodref 12 15), (0, .nameAndType 5 16), (0, u "(Ljava/lang/String;I)V"), (0, .class_ 18), (0, u "com/example/lane/lane/AccessRecord"), (0, .methodref 17 20), (0, .nameAndType 5 21), (0, u "(Ljava/lang/String;J)V"), (0, .methodref 17 23), (0, .nameAndType 24 25), (0, u "tried"), (0, u "(Ljava/lang/String;Lcom/example/lane/lane/config/HostPort;)V"), (0, .methodref 17 27), (0, .nameAndType 28 29), (0, u "attempts"), (0, u "()I"), (0, .methodref 17 31), (0, .nameAndType 32 33), (0, u "upstream"), (0, u "()Ljava/lang/String;"), (0, .methodref 17 35), (0, .nameAndType 36 37), (0, u "node"), (0, u "()Lcom/example/lane/lane/config/HostPort;"), (0, .methodref 17 39), (0, .nameAndType 40 29), (0, u "status"), (0, .methodref 17 42), (0, .nameAndType 43 33), (0, u "route"), (0, .class_ 45), (0, u "com/example/lane/lane/AccessRecordTriedPinLaw"), (2, u "law"), (0, u "(IIIIIJ)Z")] 5

def k1m0 : Method := { name := "<init>", desc := "()V", sig := { parameters := [], returnType := none }, accessFlags := 2, code := none }
def k1c1 : Code := { maxStack := 5, maxLocals := 23, code := code, exceptionTable := #[], attributes := #[] }
def k1m1 : Method := { name := "law", desc := "(IIIIIJ)Z", sig := { parameters := [.int, .int, .int, .int, .int, .long], returnType := some .boolean }, accessFlags := 9, code := some k1c1 }
/-- com/example/lane/lane/AccessRecordTriedPinLaw -/
def k1 : Class := { plain "com/example/lane/lane/AccessRecordTriedPinLaw" (some 0) with
  accessFlags := 49
  interfaces := #[]
  cf := some (fileOf pool1 44 #[] #[{ accessFlags := 2, nameIndex := 5, descriptorIndex := 6, attributes := #[] }, { accessFlags := 9, nameIndex := 48, descriptorIndex := 49, attributes := #[] }] 49 2 #[] #[])
  fields := #[]
  methods := #[k1m0, k1m1]
  instanceTypes := #[]
  staticTypes := #[]
  resolved := Array.replicate 55 none
  statics := none }

def pool2 : Array CpInfo := pool [(1, .class_ 2), (0, u "java/io/Serializable"), (0, .class_ 4), (0, u "java/lang/Object")] 2

/-- java/io/Serializable -/
def k2 : Class := { plain "java/io/Serializable" (some 0) with
  accessFlags := 1537
  interfaces := #[]
  cf := some (fileOf pool2 1 #[] #[] 1537 3 #[] #[])
  fields := #[]
  methods := #[]
  instanceTypes := #[]
  staticTypes := #[]
  resolved := Array.replicate 7 none
  statics := none }

def pool3 : Array CpInfo := pool [(1, .class_ 2), (0, u "java/lang/Comparable"), (0, .class_ 4), (0, u "java/lang/Object")] 7

/-- java/lang/Comparable -/
def k3 : Class := { plain "java/lang/Comparable" (some 0) with
  accessFlags := 1537
  interfaces := #[]
  cf := some (fileOf pool3 1 #[] #[] 1537 3 #[] #[])
  fields := #[]
  methods := #[]
  instanceTypes := #[]
  staticTypes := #[]
  resolved := Array.replicate 12 none
  statics := none }

def pool4 : Array CpInfo := pool [(2, .class_ 4), (1, u "java/lang/CharSequence"), (42, .class_ 48), (0, u "java/lang/CharSequence$1CodePointIterator"), (10, .class_ 60), (0, u "java/lang/CharSequence$1CharIterator"), (5, .class_ 67), (0, u "java/lang/Object")] 63

/-- java/lang/CharSequence -/
def k4 : Class := { plain "java/lang/CharSequence" (some 0) with
  accessFlags := 1537
  interfaces := #[]
  cf := some (fileOf pool4 2 #[.nestMembers #[47, 59]] #[] 1537 66 #[] #[])
  fields := #[]
  methods := #[]
  instanceTypes := #[]
  staticTypes := #[]
  resolved := Array.replicate 131 none
  statics := none }

def pool5 : Array CpInfo := pool [(1, .class_ 2), (0, u "java/lang/constant/Constable"), (0, .class_ 4), (0, u "java/lang/Object")] 6

/-- java/lang/constant/Constable -/
def k5 : Class := { plain "java/lang/constant/Constable" (some 0) with
  accessFlags := 1537
  interfaces := #[]
  cf := some (fileOf pool5 1 #[] #[] 1537 3 #[] #[])
  fields := #[]
  methods := #[]
  instanceTypes := #[]
  staticTypes := #[]
  resolved := Array.replicate 11 none
  statics := none }

def pool6 : Array CpInfo := pool [(1, .class_ 2), (0, u "java/lang/constant/ConstantDesc"), (0, .class_ 4), (0, u "java/lang/Object")] 32

/-- java/lang/constant/ConstantDesc -/
def k6 : Class := { plain "java/lang/constant/ConstantDesc" (some 0) with
  accessFlags := 1537
  interfaces := #[]
  cf := some (fileOf pool6 1 #[] #[] 1537 3 #[] #[])
  fields := #[]
  methods := #[]
  instanceTypes := #[]
  staticTypes := #[]
  resolved := Array.replicate 37 none
  statics := none }

def pool7 : Array CpInfo := pool [(1, .methodref 2 3), (0, .class_ 4), (0, .nameAndType 5 6), (0, u "java/lang/Object"), (0, u "<init>"), (0, u "()V"), (2, .fieldref 10 11), (0, .class_ 12), (0, .nameAndType 13 14), (0, u "java/lang/String"), (0, u "value"), (0, u "[B"), (0, .fieldref 10 16), (0, .nameAndType 17 18), (0, u "coder"), (0, u "B"), (2, u "hash"), (0, u "I"), (2, u "hashIsZero"), (0, u "Z"), (0, .methodref 10 28), (0, .nameAndType 5 29), (0, u "([CIILjava/lang/Void;)V"), (8, .fieldref 10 39), (0, .nameAndType 40 26), (0, u "COMPACT_STRINGS"), (1, .class_ 44), (1, u "java/lang/StringUTF16"), (0, u "compress"), (1, .methodref 42 48), (0, .nameAndType 49 50), (0, u "coderFromArrayLen"), (0, u "([BI)B"), (126, .methodref 42 178), (0, .nameAndType 45 179), (0, u "([CII)[B"), (395, .class_ 576), (0, u "java/lang/CharSequence"), (22, u "CASE_INSENSITIVE_ORDER"), (0, u "Ljava/util/Comparator;"), (409, u "([C)V"), (90, u "serialPersistentFields"), (0, u "[Ljava/io/ObjectStreamField;"), (0, .class_ 1104), (0, u "java/lang/String$CaseInsensitiveComparator"), (1, .class_ 1107), (0, u "java/io/Serializable"), (0, .class_ 1109), (0, u "java/lang/Comparable"), (0, .class_ 1111), (0, u "java/lang/constant/Constable"), (0, .class_ 1113), (0, u "java/lang/constant/ConstantDesc"), (2, u "serialVersionUID"), (0, u "J"), (3, u "REPL"), (0, u "C"), (2, u "LATIN1"), (1, u "UTF16")] 323

def k7m0 : Method := { name := "<init>", desc := "()V", sig := { parameters := [], returnType := none }, accessFlags := 1, code := none }
def k7c1 : Code := { maxStack := 5, maxLocals := 2, code := jdk_42_method_3_code, exceptionTable := #[], attributes := #[] }
def k7m1 : Method := { name := "<init>", desc := "([C)V", sig := { parameters := [(.array .char)], returnType := none }, accessFlags := 1, code := some k7c1 }
def k7c2 : Code := { maxStack := 4, maxLocals := 6, code := jdk_42_method_149_code, exceptionTable := #[], attributes := #[] }
def k7m2 : Method := { name := "<init>", desc := "([CIILjava/lang/Void;)V", sig := { parameters := [(.array .char), .int, .int, (.object "java/lang/Void")], returnType := none }, accessFlags := 2, code := some k7c2 }
/-- java/lang/String -/
def k7 : Class := { plain "java/lang/String" (some 0) with
  accessFlags := 49
  interfaces := #[2, 3, 4, 5, 6]
  cf := some (fileOf pool7 10 #[.nestMembers #[1103]] #[{ accessFlags := 1, nameIndex := 5, descriptorIndex := 6, attributes := #[] }, { accessFlags := 1, nameIndex := 5, descriptorIndex := 1010, attributes := #[] }, { accessFlags := 2, nameIndex := 5, descriptorIndex := 29, attributes := #[] }] 49 2 #[1106, 1108, 575, 1110, 1112] #[{ accessFlags := 18, nameIndex := 13, descriptorIndex := 14, attributes := #[] }, { accessFlags := 18, nameIndex := 17, descriptorIndex := 18, attributes := #[] }, { accessFlags := 2, nameIndex := 21, descriptorIndex := 22, attributes := #[] }, { accessFlags := 2, nameIndex := 25, descriptorIndex := 26, attributes := #[] }, { accessFlags := 26, nameIndex := 1116, descriptorIndex := 1117, attributes := #[] }, { accessFlags := 24, nameIndex := 40, descriptorIndex := 26, attributes := #[] }, { accessFlags := 26, nameIndex := 1101, descriptorIndex := 1102, attributes := #[] }, { accessFlags := 26, nameIndex := 1121, descriptorIndex := 1122, attributes := #[] }, { accessFlags := 25, nameIndex := 599, descriptorIndex := 600, attributes := #[] }, { accessFlags := 24, nameIndex := 1125, descriptorIndex := 18, attributes := #[] }, { accessFlags := 24, nameIndex := 1127, descriptorIndex := 18, attributes := #[] }])
  fields := #[{ name := "value", type := (.array .byte), accessFlags := 18, slot := 0, constantValue := 0 }, { name := "coder", type := .byte, accessFlags := 18, slot := 1, constantValue := 0 }, { name := "hash", type := .int, accessFlags := 2, slot := 2, constantValue := 0 }, { name := "hashIsZero", type := .boolean, accessFlags := 2, slot := 3, constantValue := 0 }, { name := "serialVersionUID", type := .long, accessFlags := 26, slot := 0, constantValue := 0 }, { name := "COMPACT_STRINGS", type := .boolean, accessFlags := 24, slot := 1, constantValue := 0 }, { name := "serialPersistentFields", type := (.array (.object "java/io/ObjectStreamField")), accessFlags := 26, slot := 2, constantValue := 0 }, { name := "REPL", type := .char, accessFlags := 26, slot := 3, constantValue := 0 }, { name := "CASE_INSENSITIVE_ORDER", type := (.object "java/util/Comparator"), accessFlags := 25, slot := 4, constantValue := 0 }, { name := "LATIN1", type := .byte, accessFlags := 24, slot := 5, constantValue := 0 }, { name := "UTF16", type := .byte, accessFlags := 24, slot := 6, constantValue := 0 }]
  methods := #[k7m0, k7m1, k7m2]
  instanceTypes := #[(.array .byte), .byte, .int, .boolean]
  staticTypes := #[.long, .boolean, (.array (.object "java/io/ObjectStreamField")), .char, (.object "java/util/Comparator"), .byte, .byte]
  resolved := Array.replicate 1451 none
  statics := some 0 }

def pool8 : Array CpInfo := pool [(6, .class_ 8), (1, u "java/lang/Object"), (0, u "<init>"), (0, u "()V"), (1, .class_ 14), (1, u "java/lang/StringUTF16"), (31, u "$assertionsDisabled"), (0, u "Z"), (13, u "HI_BYTE_SHIFT"), (0, u "I"), (2, u "LO_BYTE_SHIFT"), (49, .methodref 12 116), (0, .nameAndType 117 118), (0, u "compress"), (0, u "([CI[BII)I"), (3, u "([CII)[B"), (138, u "coderFromArrayLen"), (0, u "([BI)B"), (106, .class_ 371), (1, u "java/lang/StringUTF16$LinesSpliterator"), (58, u "MAX_LENGTH"), (196, .class_ 628), (0, u "java/lang/StringUTF16$CodePointsSpliterator"), (0, .class_ 630), (0, u "java/lang/StringUTF16$CharsSpliterator")] 4

def k8m0 : Method := { name := "<init>", desc := "()V", sig := { parameters := [], returnType := none }, accessFlags := 0, code := none }
def k8c1 : Code := { maxStack := 2, maxLocals := 2, code := jdk_52_method_15_code, exceptionTable := #[], attributes := #[] }
def k8m1 : Method := { name := "coderFromArrayLen", desc := "([BI)B", sig := { parameters := [(.array .byte), .int], returnType := some .byte }, accessFlags := 8, code := some k8c1 }
def k8c2 : Code := { maxStack := 5, maxLocals := 6, code := jdk_52_method_16_code, exceptionTable := #[], attributes := #[] }
def k8m2 : Method := { name := "compress", desc := "([CII)[B", sig := { parameters := [(.array .char), .int, .int], returnType := some (.array .byte) }, accessFlags := 9, code := some k8c2 }
def k8c3 : Code := { maxStack := 3, maxLocals := 7, code := jdk_52_method_21_code, exceptionTable := #[], attributes := #[] }
def k8m3 : Method := { name := "compress", desc := "([CI[BII)I", sig := { parameters := [(.array .char), .int, (.array .byte), .int, .int], returnType := some .int }, accessFlags := 9, code := some k8c3 }
/-- java/lang/StringUTF16 -/
def k8 : Class := { plain "java/lang/StringUTF16" (some 0) with
  accessFlags := 48
  interfaces := #[]
  cf := some (fileOf pool8 12 #[.nestMembers #[627, 629, 369]] #[{ accessFlags := 0, nameIndex := 9, descriptorIndex := 10, attributes := #[] }, { accessFlags := 8, nameIndex := 261, descriptorIndex := 262, attributes := #[] }, { accessFlags := 9, nameIndex := 117, descriptorIndex := 122, attributes := #[] }, { accessFlags := 9, nameIndex := 117, descriptorIndex := 118, attributes := #[] }] 48 6 #[] #[{ accessFlags := 26, nameIndex := 61, descriptorIndex := 62, attributes := #[] }, { accessFlags := 26, nameIndex := 65, descriptorIndex := 62, attributes := #[] }, { accessFlags := 24, nameIndex := 430, descriptorIndex := 62, attributes := #[] }, { accessFlags := 4120, nameIndex := 46, descriptorIndex := 47, attributes := #[] }])
  fields := #[{ name := "HI_BYTE_SHIFT", type := .int, accessFlags := 26, slot := 0, constantValue := 0 }, { name := "LO_BYTE_SHIFT", type := .int, accessFlags := 26, slot := 1, constantValue := 0 }, { name := "MAX_LENGTH", type := .int, accessFlags := 24, slot := 2, constantValue := 0 }, { name := "$assertionsDisabled", type := .boolean, accessFlags := 4120, slot := 3, constantValue := 0 }]
  methods := #[k8m0, k8m1, k8m2, k8m3]
  instanceTypes := #[]
  staticTypes := #[.int, .int, .int, .boolean]
  resolved := Array.replicate 635 none
  statics := none }

def pool9 : Array CpInfo := pool [(1, .methodref 2 3), (0, .class_ 4), (0, .nameAndType 5 6), (0, u "java/lang/Object"), (0, u "<init>"), (0, u "()V"), (0, .class_ 8), (0, u "java/lang/Record")] 13

def k9c0 : Code := { maxStack := 1, maxLocals := 1, code := jdk_30_method_1_code, exceptionTable := #[], attributes := #[] }
def k9m0 : Method := { name := "<init>", desc := "()V", sig := { parameters := [], returnType := none }, accessFlags := 4, code := some k9c0 }
/-- java/lang/Record -/
def k9 : Class := { plain "java/lang/Record" (some 0) with
  accessFlags := 1057
  interfaces := #[]
  cf := some (fileOf pool9 7 #[] #[{ accessFlags := 4, nameIndex := 5, descriptorIndex := 6, attributes := #[] }] 1057 2 #[] #[])
  fields := #[]
  methods := #[k9m0]
  instanceTypes := #[]
  staticTypes := #[]
  resolved := Array.replicate 22 none
  statics := none }

def pool10 : Array CpInfo := pool [(1, .methodref 2 3), (0, .class_ 4), (0, .nameAndType 5 6), (0, u "java/lang/Record"), (0, u "<init>"), (0, u "()V"), (0, .fieldref 8 9), (0, .class_ 10), (0, .nameAndType 11 12), (0, u "com/example/lane/lane/config/HostPort"), (0, u "host"), (0, u "Ljava/lang/String;"), (0, .fieldref 8 14), (0, .nameAndType 15 16), (0, u "port"), (0, u "I"), (12, u "(Ljava/lang/String;I)V")] 36

def k10c0 : Code := { maxStack := 2, maxLocals := 3, code := prog_13_method_1_code, exceptionTable := #[], attributes := #[] }
def k10m0 : Method := { name := "<init>", desc := "(Ljava/lang/String;I)V", sig := { parameters := [(.object "java/lang/String"), .int], returnType := none }, accessFlags := 1, code := some k10c0 }
/-- com/example/lane/lane/config/HostPort -/
def k10 : Class := { plain "com/example/lane/lane/config/HostPort" (some 9) with
  accessFlags := 49
  interfaces := #[]
  cf := some (fileOf pool10 8 #[] #[{ accessFlags := 1, nameIndex := 5, descriptorIndex := 29, attributes := #[] }] 49 2 #[] #[{ accessFlags := 18, nameIndex := 11, descriptorIndex := 12, attributes := #[] }, { accessFlags := 18, nameIndex := 15, descriptorIndex := 16, attributes := #[] }])
  fields := #[{ name := "host", type := (.object "java/lang/String"), accessFlags := 18, slot := 0, constantValue := 0 }, { name := "port", type := .int, accessFlags := 18, slot := 1, constantValue := 0 }]
  methods := #[k10m0]
  instanceTypes := #[(.object "java/lang/String"), .int]
  staticTypes := #[]
  resolved := Array.replicate 66 none
  statics := none }

def pool11 : Array CpInfo := pool [(1, .methodref 2 3), (0, .class_ 4), (0, .nameAndType 5 6), (0, u "java/lang/Object"), (0, u "<init>"), (0, u "()V"), (0, .fieldref 8 9), (0, .class_ 10), (0, .nameAndType 11 12), (0, u "com/example/lane/lane/AccessRecord"), (0, u "client"), (0, u "Ljava/lang/String;"), (0, .fieldref 8 14), (0, .nameAndType 15 16), (0, u "start"), (0, u "J"), (2, u "method"), (2, u "target"), (2, u "version"), (2, u "unreadLine"), (2, u "referer"), (2, u "userAgent"), (0, .fieldref 8 36), (0, .nameAndType 37 38), (0, u "status"), (0, u "I"), (2, u "bytes"), (0, .fieldref 8 43), (0, .nameAndType 44 12), (0, u "route"), (2, u "tenant"), (0, .fieldref 8 49), (0, .nameAndType 50 12), (0, u "upstream"), (0, .fieldref 8 52), (0, .nameAndType 53 54), (0, u "node"), (0, u "Lcom/example/lane/lane/config/HostPort;"), (0, .fieldref 8 56), (0, .nameAndType 57 38), (0, u "attempts"), (2, u "ended"), (0, u "Z"), (2, u "cut"), (2, u "end"), (0, u "NO_ANSWER"), (2, u "(Ljava/lang/String;J)V"), (13, u "tried"), (0, u "(Ljava/lang/String;Lcom/example/lane/lane/config/HostPort;)V"), (2, u "()Ljava/lang/String;"), (2, u "()I"), (0, u "()Lcom/example/lane/lane/config/HostPort;")] 3

def k11c0 : Code := { maxStack := 3, maxLocals := 4, code := prog_1_method_1_code, exceptionTable := #[], attributes := #[] }
def k11m0 : Method := { name := "<init>", desc := "(Ljava/lang/String;J)V", sig := { parameters := [(.object "java/lang/String"), .long], returnType := none }, accessFlags := 0, code := some k11c0 }
def k11c1 : Code := { maxStack := 3, maxLocals := 3, code := prog_1_method_8_code, exceptionTable := #[], attributes := #[] }
def k11m1 : Method := { name := "tried", desc := "(Ljava/lang/String;Lcom/example/lane/lane/config/HostPort;)V", sig := { parameters := [(.object "java/lang/String"), (.object "com/example/lane/lane/config/HostPort")], returnType := none }, accessFlags := 0, code := some k11c1 }
def k11c2 : Code := { maxStack := 1, maxLocals := 1, code := prog_1_method_18_code, exceptionTable := #[], attributes := #[] }
def k11m2 : Method := { name := "status", desc := "()I", sig := { parameters := [], returnType := some .int }, accessFlags := 0, code := some k11c2 }
def k11c3 : Code := { maxStack := 1, maxLocals := 1, code := prog_1_method_20_code, exceptionTable := #[], attributes := #[] }
def k11m3 : Method := { name := "route", desc := "()Ljava/lang/String;", sig := { parameters := [], returnType := some (.object "java/lang/String") }, accessFlags := 0, code := some k11c3 }
def k11c4 : Code := { maxStack := 1, maxLocals := 1, code := prog_1_method_22_code, exceptionTable := #[], attributes := #[] }
def k11m4 : Method := { name := "upstream", desc := "()Ljava/lang/String;", sig := { parameters := [], returnType := some (.object "java/lang/String") }, accessFlags := 0, code := some k11c4 }
def k11c5 : Code := { maxStack := 1, maxLocals := 1, code := prog_1_method_23_code, exceptionTable := #[], attributes := #[] }
def k11m5 : Method := { name := "node", desc := "()Lcom/example/lane/lane/config/HostPort;", sig := { parameters := [], returnType := some (.object "com/example/lane/lane/config/HostPort") }, accessFlags := 0, code := some k11c5 }
def k11c6 : Code := { maxStack := 1, maxLocals := 1, code := prog_1_method_24_code, exceptionTable := #[], attributes := #[] }
def k11m6 : Method := { name := "attempts", desc := "()I", sig := { parameters := [], returnType := some .int }, accessFlags := 0, code := some k11c6 }
/-- com/example/lane/lane/AccessRecord -/
def k11 : Class := { plain "com/example/lane/lane/AccessRecord" (some 0) with
  accessFlags := 32
  interfaces := #[]
  cf := some (fileOf pool11 8 #[] #[{ accessFlags := 0, nameIndex := 5, descriptorIndex := 71, attributes := #[] }, { accessFlags := 0, nameIndex := 85, descriptorIndex := 86, attributes := #[] }, { accessFlags := 0, nameIndex := 37, descriptorIndex := 92, attributes := #[] }, { accessFlags := 0, nameIndex := 44, descriptorIndex := 89, attributes := #[] }, { accessFlags := 0, nameIndex := 50, descriptorIndex := 89, attributes := #[] }, { accessFlags := 0, nameIndex := 53, descriptorIndex := 93, attributes := #[] }, { accessFlags := 0, nameIndex := 57, descriptorIndex := 92, attributes := #[] }] 32 2 #[] #[{ accessFlags := 24, nameIndex := 68, descriptorIndex := 38, attributes := #[] }, { accessFlags := 18, nameIndex := 11, descriptorIndex := 12, attributes := #[] }, { accessFlags := 18, nameIndex := 15, descriptorIndex := 16, attributes := #[] }, { accessFlags := 2, nameIndex := 67, descriptorIndex := 16, attributes := #[] }, { accessFlags := 2, nameIndex := 28, descriptorIndex := 12, attributes := #[] }, { accessFlags := 2, nameIndex := 19, descriptorIndex := 12, attributes := #[] }, { accessFlags := 2, nameIndex := 22, descriptorIndex := 12, attributes := #[] }, { accessFlags := 2, nameIndex := 25, descriptorIndex := 12, attributes := #[] }, { accessFlags := 2, nameIndex := 31, descriptorIndex := 12, attributes := #[] }, { accessFlags := 2, nameIndex := 34, descriptorIndex := 12, attributes := #[] }, { accessFlags := 2, nameIndex := 37, descriptorIndex := 38, attributes := #[] }, { accessFlags := 2, nameIndex := 41, descriptorIndex := 16, attributes := #[] }, { accessFlags := 2, nameIndex := 44, descriptorIndex := 12, attributes := #[] }, { accessFlags := 2, nameIndex := 47, descriptorIndex := 12, attributes := #[] }, { accessFlags := 2, nameIndex := 50, descriptorIndex := 12, attributes := #[] }, { accessFlags := 2, nameIndex := 53, descriptorIndex := 54, attributes := #[] }, { accessFlags := 2, nameIndex := 57, descriptorIndex := 38, attributes := #[] }, { accessFlags := 2, nameIndex := 64, descriptorIndex := 61, attributes := #[] }, { accessFlags := 2, nameIndex := 60, descriptorIndex := 61, attributes := #[] }])
  fields := #[{ name := "NO_ANSWER", type := .int, accessFlags := 24, slot := 0, constantValue := 0 }, { name := "client", type := (.object "java/lang/String"), accessFlags := 18, slot := 0, constantValue := 0 }, { name := "start", type := .long, accessFlags := 18, slot := 1, constantValue := 0 }, { name := "end", type := .long, accessFlags := 2, slot := 2, constantValue := 0 }, { name := "unreadLine", type := (.object "java/lang/String"), accessFlags := 2, slot := 3, constantValue := 0 }, { name := "method", type := (.object "java/lang/String"), accessFlags := 2, slot := 4, constantValue := 0 }, { name := "target", type := (.object "java/lang/String"), accessFlags := 2, slot := 5, constantValue := 0 }, { name := "version", type := (.object "java/lang/String"), accessFlags := 2, slot := 6, constantValue := 0 }, { name := "referer", type := (.object "java/lang/String"), accessFlags := 2, slot := 7, constantValue := 0 }, { name := "userAgent", type := (.object "java/lang/String"), accessFlags := 2, slot := 8, constantValue := 0 }, { name := "status", type := .int, accessFlags := 2, slot := 9, constantValue := 0 }, { name := "bytes", type := .long, accessFlags := 2, slot := 10, constantValue := 0 }, { name := "route", type := (.object "java/lang/String"), accessFlags := 2, slot := 11, constantValue := 0 }, { name := "tenant", type := (.object "java/lang/String"), accessFlags := 2, slot := 12, constantValue := 0 }, { name := "upstream", type := (.object "java/lang/String"), accessFlags := 2, slot := 13, constantValue := 0 }, { name := "node", type := (.object "com/example/lane/lane/config/HostPort"), accessFlags := 2, slot := 14, constantValue := 0 }, { name := "attempts", type := .int, accessFlags := 2, slot := 15, constantValue := 0 }, { name := "cut", type := .boolean, accessFlags := 2, slot := 16, constantValue := 0 }, { name := "ended", type := .boolean, accessFlags := 2, slot := 17, constantValue := 0 }]
  methods := #[k11m0, k11m1, k11m2, k11m3, k11m4, k11m5, k11m6]
  instanceTypes := #[(.object "java/lang/String"), .long, .long, (.object "java/lang/String"), (.object "java/lang/String"), (.object "java/lang/String"), (.object "java/lang/String"), (.object "java/lang/String"), (.object "java/lang/String"), .int, .long, (.object "java/lang/String"), (.object "java/lang/String"), (.object "java/lang/String"), (.object "com/example/lane/lane/config/HostPort"), .int, .boolean, .boolean]
  staticTypes := #[.int]
  resolved := Array.replicate 97 none
  statics := none }

def pool12 : Array CpInfo := pool [(4, .class_ 6), (1, u "java/lang/Object"), (0, u "<init>"), (0, u "()V"), (5, .class_ 16), (1, u "java/lang/StringLatin1"), (104, u "$assertionsDisabled"), (0, u "Z"), (98, .class_ 223), (1, u "java/lang/StringLatin1$LinesSpliterator"), (166, .class_ 391), (0, u "java/lang/StringLatin1$CharsSpliterator")] 3

def k12m0 : Method := { name := "<init>", desc := "()V", sig := { parameters := [], returnType := none }, accessFlags := 0, code := none }
/-- java/lang/StringLatin1 -/
def k12 : Class := { plain "java/lang/StringLatin1" (some 0) with
  accessFlags := 48
  interfaces := #[]
  cf := some (fileOf pool12 14 #[.nestMembers #[390, 221]] #[{ accessFlags := 0, nameIndex := 7, descriptorIndex := 8, attributes := #[] }] 48 4 #[] #[{ accessFlags := 4120, nameIndex := 121, descriptorIndex := 122, attributes := #[] }])
  fields := #[{ name := "$assertionsDisabled", type := .boolean, accessFlags := 4120, slot := 0, constantValue := 0 }]
  methods := #[k12m0]
  instanceTypes := #[]
  staticTypes := #[.boolean]
  resolved := Array.replicate 395 none
  statics := none }

def pool13 : Array CpInfo := pool [(2, .class_ 4), (1, u "java/lang/Object"), (0, u "<init>"), (0, u "()V"), (17, .class_ 26), (1, u "jdk/internal/util/Preconditions"), (28, .class_ 56), (0, u "jdk/internal/util/Preconditions$4"), (57, .class_ 115), (0, u "jdk/internal/util/Preconditions$1"), (7, u "SIOOBE_FORMATTER"), (0, u "Ljava/util/function/BiFunction;"), (0, .class_ 126), (0, u "jdk/internal/util/Preconditions$2"), (3, u "AIOOBE_FORMATTER"), (0, .class_ 132), (0, u "jdk/internal/util/Preconditions$3"), (3, u "IOOBE_FORMATTER")] 57

def k13m0 : Method := { name := "<init>", desc := "()V", sig := { parameters := [], returnType := none }, accessFlags := 1, code := none }
/-- jdk/internal/util/Preconditions -/
def k13 : Class := { plain "jdk/internal/util/Preconditions" (some 0) with
  accessFlags := 33
  interfaces := #[]
  cf := some (fileOf pool13 24 #[.nestMembers #[55, 131, 125, 114]] #[{ accessFlags := 1, nameIndex := 5, descriptorIndex := 6, attributes := #[] }] 33 2 #[] #[{ accessFlags := 25, nameIndex := 123, descriptorIndex := 124, attributes := #[] }, { accessFlags := 25, nameIndex := 130, descriptorIndex := 124, attributes := #[] }, { accessFlags := 25, nameIndex := 136, descriptorIndex := 124, attributes := #[] }])
  fields := #[{ name := "SIOOBE_FORMATTER", type := (.object "java/util/function/BiFunction"), accessFlags := 25, slot := 0, constantValue := 0 }, { name := "AIOOBE_FORMATTER", type := (.object "java/util/function/BiFunction"), accessFlags := 25, slot := 1, constantValue := 0 }, { name := "IOOBE_FORMATTER", type := (.object "java/util/function/BiFunction"), accessFlags := 25, slot := 2, constantValue := 0 }]
  methods := #[k13m0]
  instanceTypes := #[]
  staticTypes := #[(.object "java/util/function/BiFunction"), (.object "java/util/function/BiFunction"), (.object "java/util/function/BiFunction")]
  resolved := Array.replicate 194 none
  statics := some 1 }

def pool14 : Array CpInfo := pool [(9, u "<init>"), (6, .class_ 18), (1, u "java/lang/Object"), (0, u "()V"), (1, .class_ 23), (1, u "jdk/internal/util/ArraysSupport"), (0, u "LOG2_ARRAY_LONG_INDEX_SCALE"), (0, u "I"), (2, u "U"), (0, u "Ljdk/internal/misc/Unsafe;"), (8, u "BIG_ENDIAN"), (0, u "Z"), (8, u "LOG2_BYTE_BIT_SIZE"), (4, u "LOG2_ARRAY_INT_INDEX_SCALE"), (54, u "JLA"), (0, u "Ljdk/internal/access/JavaLangAccess;"), (11, u "LOG2_ARRAY_BOOLEAN_INDEX_SCALE"), (9, u "LOG2_ARRAY_BYTE_INDEX_SCALE"), (5, u "LOG2_ARRAY_CHAR_INDEX_SCALE"), (5, u "LOG2_ARRAY_SHORT_INDEX_SCALE"), (18, u "LOG2_ARRAY_FLOAT_INDEX_SCALE"), (24, u "LOG2_ARRAY_DOUBLE_INDEX_SCALE"), (89, u "T_BOOLEAN"), (2, u "T_CHAR"), (1, u "T_FLOAT"), (1, u "T_DOUBLE"), (1, u "T_BYTE"), (1, u "T_SHORT"), (1, u "T_INT"), (1, u "T_LONG"), (1, u "SOFT_MAX_ARRAY_LENGTH")] 83

def k14m0 : Method := { name := "<init>", desc := "()V", sig := { parameters := [], returnType := none }, accessFlags := 2, code := none }
/-- jdk/internal/util/ArraysSupport -/
def k14 : Class := { plain "jdk/internal/util/ArraysSupport" (some 0) with
  accessFlags := 33
  interfaces := #[]
  cf := some (fileOf pool14 21 #[] #[{ accessFlags := 2, nameIndex := 9, descriptorIndex := 19, attributes := #[] }] 33 16 #[] #[{ accessFlags := 24, nameIndex := 28, descriptorIndex := 29, attributes := #[] }, { accessFlags := 26, nameIndex := 38, descriptorIndex := 39, attributes := #[] }, { accessFlags := 25, nameIndex := 121, descriptorIndex := 25, attributes := #[] }, { accessFlags := 25, nameIndex := 131, descriptorIndex := 25, attributes := #[] }, { accessFlags := 25, nameIndex := 137, descriptorIndex := 25, attributes := #[] }, { accessFlags := 25, nameIndex := 143, descriptorIndex := 25, attributes := #[] }, { accessFlags := 25, nameIndex := 53, descriptorIndex := 25, attributes := #[] }, { accessFlags := 25, nameIndex := 24, descriptorIndex := 25, attributes := #[] }, { accessFlags := 25, nameIndex := 162, descriptorIndex := 25, attributes := #[] }, { accessFlags := 25, nameIndex := 187, descriptorIndex := 25, attributes := #[] }, { accessFlags := 26, nameIndex := 48, descriptorIndex := 25, attributes := #[] }, { accessFlags := 25, nameIndex := 277, descriptorIndex := 25, attributes := #[] }, { accessFlags := 25, nameIndex := 280, descriptorIndex := 25, attributes := #[] }, { accessFlags := 25, nameIndex := 282, descriptorIndex := 25, attributes := #[] }, { accessFlags := 25, nameIndex := 284, descriptorIndex := 25, attributes := #[] }, { accessFlags := 25, nameIndex := 286, descriptorIndex := 25, attributes := #[] }, { accessFlags := 25, nameIndex := 288, descriptorIndex := 25, attributes := #[] }, { accessFlags := 25, nameIndex := 290, descriptorIndex := 25, attributes := #[] }, { accessFlags := 25, nameIndex := 292, descriptorIndex := 25, attributes := #[] }, { accessFlags := 26, nameIndex := 108, descriptorIndex := 109, attributes := #[] }, { accessFlags := 25, nameIndex := 294, descriptorIndex := 25, attributes := #[] }])
  fields := #[{ name := "U", type := (.object "jdk/internal/misc/Unsafe"), accessFlags := 24, slot := 0, constantValue := 0 }, { name := "BIG_ENDIAN", type := .boolean, accessFlags := 26, slot := 1, constantValue := 0 }, { name := "LOG2_ARRAY_BOOLEAN_INDEX_SCALE", type := .int, accessFlags := 25, slot := 2, constantValue := 0 }, { name := "LOG2_ARRAY_BYTE_INDEX_SCALE", type := .int, accessFlags := 25, slot := 3, constantValue := 0 }, { name := "LOG2_ARRAY_CHAR_INDEX_SCALE", type := .int, accessFlags := 25, slot := 4, constantValue := 0 }, { name := "LOG2_ARRAY_SHORT_INDEX_SCALE", type := .int, accessFlags := 25, slot := 5, constantValue := 0 }, { name := "LOG2_ARRAY_INT_INDEX_SCALE", type := .int, accessFlags := 25, slot := 6, constantValue := 0 }, { name := "LOG2_ARRAY_LONG_INDEX_SCALE", type := .int, accessFlags := 25, slot := 7, constantValue := 0 }, { name := "LOG2_ARRAY_FLOAT_INDEX_SCALE", type := .int, accessFlags := 25, slot := 8, constantValue := 0 }, { name := "LOG2_ARRAY_DOUBLE_INDEX_SCALE", type := .int, accessFlags := 25, slot := 9, constantValue := 0 }, { name := "LOG2_BYTE_BIT_SIZE", type := .int, accessFlags := 26, slot := 10, constantValue := 0 }, { name := "T_BOOLEAN", type := .int, accessFlags := 25, slot := 11, constantValue := 0 }, { name := "T_CHAR", type := .int, accessFlags := 25, slot := 12, constantValue := 0 }, { name := "T_FLOAT", type := .int, accessFlags := 25, slot := 13, constantValue := 0 }, { name := "T_DOUBLE", type := .int, accessFlags := 25, slot := 14, constantValue := 0 }, { name := "T_BYTE", type := .int, accessFlags := 25, slot := 15, constantValue := 0 }, { name := "T_SHORT", type := .int, accessFlags := 25, slot := 16, constantValue := 0 }, { name := "T_INT", type := .int, accessFlags := 25, slot := 17, constantValue := 0 }, { name := "T_LONG", type := .int, accessFlags := 25, slot := 18, constantValue := 0 }, { name := "JLA", type := (.object "jdk/internal/access/JavaLangAccess"), accessFlags := 26, slot := 19, constantValue := 0 }, { name := "SOFT_MAX_ARRAY_LENGTH", type := .int, accessFlags := 25, slot := 20, constantValue := 0 }]
  methods := #[k14m0]
  instanceTypes := #[]
  staticTypes := #[(.object "jdk/internal/misc/Unsafe"), .boolean, .int, .int, .int, .int, .int, .int, .int, .int, .int, .int, .int, .int, .int, .int, .int, .int, .int, (.object "jdk/internal/access/JavaLangAccess"), .int]
  resolved := Array.replicate 378 none
  statics := none }

def pool15 : Array CpInfo := pool [(1, u "java/lang/Cloneable"), (0, .class_ 1), (0, u "java/lang/Object"), (0, .class_ 3)] 3

/-- java/lang/Cloneable -/
def k15 : Class := { plain "java/lang/Cloneable" (some 0) with
  accessFlags := 1537
  interfaces := #[]
  cf := some (fileOf pool15 2 #[] #[] 1537 4 #[] #[])
  fields := #[]
  methods := #[]
  instanceTypes := #[]
  staticTypes := #[]
  resolved := Array.replicate 8 none
  statics := none }

/-- the primitive byte -/
def k16 : Class := { plain "byte" none with kind := .primitive 'B', accessFlags := 0x411 }
/-- [B -/
def k17 : Class := { plain "[B" (some 0) with kind := .array 16 .byte, interfaces := #[15, 2], accessFlags := 1041 }

/-- the primitive char -/
def k18 : Class := { plain "char" none with kind := .primitive 'C', accessFlags := 0x411 }
/-- [C -/
def k19 : Class := { plain "[C" (some 0) with kind := .array 18 .char, interfaces := #[15, 2], accessFlags := 1041 }

/-- the primitive int -/
def k20 : Class := { plain "int" none with kind := .primitive 'I', accessFlags := 0x411 }
/-- [I -/
def k21 : Class := { plain "[I" (some 0) with kind := .array 20 .int, interfaces := #[15, 2], accessFlags := 1041 }

def heap : Heap := #[{ cls := 7, slots := #[.long 0, .int 1, .null, .int 0, .null, .int 0, .int 0], vm := .statics 7 },
  { cls := 13, slots := #[.null, .null, .null], vm := .statics 13 }]
def classes : Array Class := #[k0, k1, k2, k3, k4, k5, k6, k7, k8, k9, k10, k11, k12, k13, k14, k15, k16, k17, k18, k19, k20, k21]
def interned : List (Array UInt16 × Addr) := []
def slotsUsed : Nat := 10
def theMethod : MethodId := ⟨1, 1⟩
def args0 : Array Value := #[.int 5, .int 6, .int 7, .int 8, .int 9, .long 3]
def aboutOver (below : List Frame) : State where
  vm := { classes := classes, interned := interned.toArray }
  heap := heap
  slotsUsed := slotsUsed
  threads := #[{ frames := .invoking theMethod args0 :: below }]
def below0 : List Frame := [.native { method := ⟨0, 0⟩, args := #[] }]
def about1 : State := aboutOver below0
def p0 : Program := .bare "" "" ""
def e0 : Env := launch0.env 0 0 0
theorem w_frames : about1.frames = Frame.invoking theMethod args0 :: below0 := rfl
set_option maxRecDepth 65536 in
theorem w_args : argsFit about1.vm theMethod args0 = true := by decide +kernel
set_option maxRecDepth 65536 in
theorem w_heap : heapFits about1 = true := by decide +kernel
set_option maxRecDepth 65536 in
theorem w_runnable : about1.curStatus? = some .runnable := by decide +kernel
set_option maxRecDepth 65536 in
theorem w_alone : about1.alone = true := by decide +kernel
set_option maxRecDepth 65536 in
theorem w_named : about1.methodNamed? x = some theMethod := by decide +kernel
set_option maxRecDepth 65536 in
theorem w_hears : about1.hears theMethod below0 = true := by decide +kernel
set_option maxRecDepth 65536 in
theorem w_ripe : about1.ripe theMethod args0 below0 = true := by decide +kernel
theorem w_running : about1.status = .running := rfl
set_option maxRecDepth 65536 in
theorem w_room : about1.hasRoom e0.platform room_1 = true :=
  launch0.hasRoom_least _ room_1 (by decide +kernel) (by decide +kernel) (by decide +kernel) (by decide +kernel) (by decide +kernel) (by decide +kernel)
theorem allAtoms_all (ts : List Jvm.Cond) (a : Array Jvm.Value) (st : Jvm.State) : (allAtoms ts).before a st = ts.all (fun c => c.before a st) := by
  induction ts with
  | nil => rfl
  | cons c t ih =>
    show (Jvm.Cond.and c (allAtoms t)).before a st = _
    rw [Jvm.Cond.before_and, ih, List.all_cons]
def words1 : List Jvm.Cond := Jvm.Cond.code x code maxLocals ret :: tables_1
/-- a 'code' word, met by the world's own term for the bytes: nothing is compared byte by byte -/
theorem code_word {y : MethodName} {bytes : ByteArray} {mx : Nat} {rt : Option FieldType} {a : Array Value} {s : State} {m : MethodId} {meth : Method} {c : Code} (h1 : s.methodNamed? y = some m) (h2 : s.vm.method? m = some meth) (h3 : meth.code = some c) (h4 : c.code = bytes)
    (h5 : (c.maxLocals == mx && c.exceptionTable.isEmpty && decide (c.maxStack ≤ mostOperands) && decide (meth.sig.returnType = rt) && !meth.locks && decide (parseMethodDescriptor y.desc = some meth.sig)) = true) : (Jvm.Cond.code y bytes mx rt).before a s = true := by
  simp only [Bool.and_eq_true, beq_iff_eq, Bool.not_eq_true', decide_eq_true_eq] at h5
  obtain ⟨⟨⟨⟨⟨g1, g2⟩, g3⟩, g4⟩, g5⟩, g6⟩ := h5
  simp [Cond.before, Cond.holds, Cond.value, h1, h2, h3, h4, g1, g2, g3, g4, g5, g6]
def isCode : Jvm.Cond → Bool
  | .code _ _ _ _ => true
  | _ => false
theorem all_split {L : List Jvm.Cond} {P : Jvm.Cond → Bool} (h1 : L.all (fun c => isCode c || P c) = true) (h2 : ∀ c ∈ L.filter isCode, P c = true) : L.all P = true := by
  refine List.all_eq_true.mpr fun c hc => ?_
  have h := List.all_eq_true.mp h1 c hc
  rcases Bool.eq_false_or_eq_true (isCode c) with hi | hi
  · exact h2 c (List.mem_filter.mpr ⟨hc, hi⟩)
  · simpa [hi] using h
set_option maxRecDepth 65536 in
theorem w_c0 : (Jvm.Cond.code x code maxLocals ret).before args0 about1 = true := code_word (m := ⟨1, 1⟩) (meth := k1m1) (c := k1c1) (by decide +kernel) rfl rfl rfl (by decide +kernel)
set_option maxRecDepth 65536 in
theorem w_c1 : (Jvm.Cond.code ({ cls := "java/lang/String", name := "<init>", desc := "([C)V" } : Jvm.MethodName) jdk_42_method_3_code (2 : Nat) (Option.none : Option Jvm.ClassFile.FieldType)).before args0 about1 = true := code_word (m := ⟨7, 1⟩) (meth := k7m1) (c := k7c1) (by decide +kernel) rfl rfl rfl (by decide +kernel)
set_option maxRecDepth 65536 in
theorem w_c2 : (Jvm.Cond.code ({ cls := "java/lang/String", name := "<init>", desc := "([CIILjava/lang/Void;)V" } : Jvm.MethodName) jdk_42_method_149_code (6 : Nat) (Option.none : Option Jvm.ClassFile.FieldType)).before args0 about1 = true := code_word (m := ⟨7, 2⟩) (meth := k7m2) (c := k7c2) (by decide +kernel) rfl rfl rfl (by decide +kernel)
set_option maxRecDepth 65536 in
theorem w_c3 : (Jvm.Cond.code ({ cls := "java/lang/Object", name := "<init>", desc := "()V" } : Jvm.MethodName) object_method_1_code (1 : Nat) (Option.none : Option Jvm.ClassFile.FieldType)).before args0 about1 = true := code_word (m := ⟨0, 0⟩) (meth := k0m0) (c := k0c0) (by decide +kernel) rfl rfl rfl (by decide +kernel)
set_option maxRecDepth 65536 in
theorem w_c4 : (Jvm.Cond.code ({ cls := "java/lang/StringUTF16", name := "compress", desc := "([CII)[B" } : Jvm.MethodName) jdk_52_method_16_code (6 : Nat) (Option.some (Jvm.ClassFile.FieldType.array Jvm.ClassFile.FieldType.byte))).before args0 about1 = true := code_word (m := ⟨8, 2⟩) (meth := k8m2) (c := k8c2) (by decide +kernel) rfl rfl rfl (by decide +kernel)
set_option maxRecDepth 65536 in
theorem w_c5 : (Jvm.Cond.code ({ cls := "java/lang/StringUTF16", name := "compress", desc := "([CI[BII)I" } : Jvm.MethodName) jdk_52_method_21_code (7 : Nat) (Option.some Jvm.ClassFile.FieldType.int)).before args0 about1 = true := code_word (m := ⟨8, 3⟩) (meth := k8m3) (c := k8c3) (by decide +kernel) rfl rfl rfl (by decide +kernel)
set_option maxRecDepth 65536 in
theorem w_c6 : (Jvm.Cond.code ({ cls := "java/lang/StringUTF16", name := "coderFromArrayLen", desc := "([BI)B" } : Jvm.MethodName) jdk_52_method_15_code (2 : Nat) (Option.some Jvm.ClassFile.FieldType.byte)).before args0 about1 = true := code_word (m := ⟨8, 1⟩) (meth := k8m1) (c := k8c1) (by decide +kernel) rfl rfl rfl (by decide +kernel)
set_option maxRecDepth 65536 in
theorem w_c7 : (Jvm.Cond.code ({ cls := "com/example/lane/lane/config/HostPort", name := "<init>", desc := "(Ljava/lang/String;I)V" } : Jvm.MethodName) prog_13_method_1_code (3 : Nat) (Option.none : Option Jvm.ClassFile.FieldType)).before args0 about1 = true := code_word (m := ⟨10, 0⟩) (meth := k10m0) (c := k10c0) (by decide +kernel) rfl rfl rfl (by decide +kernel)
set_option maxRecDepth 65536 in
theorem w_c8 : (Jvm.Cond.code ({ cls := "java/lang/Record", name := "<init>", desc := "()V" } : Jvm.MethodName) jdk_30_method_1_code (1 : Nat) (Option.none : Option Jvm.ClassFile.FieldType)).before args0 about1 = true := code_word (m := ⟨9, 0⟩) (meth := k9m0) (c := k9c0) (by decide +kernel) rfl rfl rfl (by decide +kernel)
set_option maxRecDepth 65536 in
theorem w_c9 : (Jvm.Cond.code ({ cls := "com/example/lane/lane/AccessRecord", name := "<init>", desc := "(Ljava/lang/String;J)V" } : Jvm.MethodName) prog_1_method_1_code (4 : Nat) (Option.none : Option Jvm.ClassFile.FieldType)).before args0 about1 = true := code_word (m := ⟨11, 0⟩) (meth := k11m0) (c := k11c0) (by decide +kernel) rfl rfl rfl (by decide +kernel)
set_option maxRecDepth 65536 in
theorem w_c10 : (Jvm.Cond.code ({ cls := "com/example/lane/lane/AccessRecord", name := "attempts", desc := "()I" } : Jvm.MethodName) prog_1_method_24_code (1 : Nat) (Option.some Jvm.ClassFile.FieldType.int)).before args0 about1 = true := code_word (m := ⟨11, 6⟩) (meth := k11m6) (c := k11c6) (by decide +kernel) rfl rfl rfl (by decide +kernel)
set_option maxRecDepth 65536 in
theorem w_c11 : (Jvm.Cond.code ({ cls := "com/example/lane/lane/AccessRecord", name := "upstream", desc := "()Ljava/lang/String;" } : Jvm.MethodName) prog_1_method_22_code (1 : Nat) (Option.some (Jvm.ClassFile.FieldType.object "java/lang/String"))).before args0 about1 = true := code_word (m := ⟨11, 4⟩) (meth := k11m4) (c := k11c4) (by decide +kernel) rfl rfl rfl (by decide +kernel)
set_option maxRecDepth 65536 in
theorem w_c12 : (Jvm.Cond.code ({ cls := "com/example/lane/lane/AccessRecord", name := "node", desc := "()Lcom/example/lane/lane/config/HostPort;" } : Jvm.MethodName) prog_1_method_23_code (1 : Nat) (Option.some (Jvm.ClassFile.FieldType.object "com/example/lane/lane/config/HostPort"))).before args0 about1 = true := code_word (m := ⟨11, 5⟩) (meth := k11m5) (c := k11c5) (by decide +kernel) rfl rfl rfl (by decide +kernel)
set_option maxRecDepth 65536 in
theorem w_c13 : (Jvm.Cond.code ({ cls := "com/example/lane/lane/AccessRecord", name := "status", desc := "()I" } : Jvm.MethodName) prog_1_method_18_code (1 : Nat) (Option.some Jvm.ClassFile.FieldType.int)).before args0 about1 = true := code_word (m := ⟨11, 2⟩) (meth := k11m2) (c := k11c2) (by decide +kernel) rfl rfl rfl (by decide +kernel)
set_option maxRecDepth 65536 in
theorem w_c14 : (Jvm.Cond.code ({ cls := "com/example/lane/lane/AccessRecord", name := "route", desc := "()Ljava/lang/String;" } : Jvm.MethodName) prog_1_method_20_code (1 : Nat) (Option.some (Jvm.ClassFile.FieldType.object "java/lang/String"))).before args0 about1 = true := code_word (m := ⟨11, 3⟩) (meth := k11m3) (c := k11c3) (by decide +kernel) rfl rfl rfl (by decide +kernel)
set_option maxRecDepth 65536 in
theorem w_c15 : (Jvm.Cond.code ({ cls := "com/example/lane/lane/AccessRecord", name := "tried", desc := "(Ljava/lang/String;Lcom/example/lane/lane/config/HostPort;)V" } : Jvm.MethodName) prog_1_method_8_code (3 : Nat) (Option.none : Option Jvm.ClassFile.FieldType)).before args0 about1 = true := code_word (m := ⟨11, 1⟩) (meth := k11m1) (c := k11c1) (by decide +kernel) rfl rfl rfl (by decide +kernel)
def codes1 : List Jvm.Cond := [Jvm.Cond.code x code maxLocals ret, Jvm.Cond.code ({ cls := "java/lang/String", name := "<init>", desc := "([C)V" } : Jvm.MethodName) jdk_42_method_3_code (2 : Nat) (Option.none : Option Jvm.ClassFile.FieldType), Jvm.Cond.code ({ cls := "java/lang/String", name := "<init>", desc := "([CIILjava/lang/Void;)V" } : Jvm.MethodName) jdk_42_method_149_code (6 : Nat) (Option.none : Option Jvm.ClassFile.FieldType), Jvm.Cond.code ({ cls := "java/lang/Object", name := "<init>", desc := "()V" } : Jvm.MethodName) object_method_1_code (1 : Nat) (Option.none : Option Jvm.ClassFile.FieldType), Jvm.Cond.code ({ cls := "java/lang/StringUTF16", name := "compress", desc := "([CII)[B" } : Jvm.MethodName) jdk_52_method_16_code (6 : Nat) (Option.some (Jvm.ClassFile.FieldType.array Jvm.ClassFile.FieldType.byte)), Jvm.Cond.code ({ cls := "java/lang/StringUTF16", name := "compress", desc := "([CI[BII)I" } : Jvm.MethodName) jdk_52_method_21_code (7 : Nat) (Option.some Jvm.ClassFile.FieldType.int), Jvm.Cond.code ({ cls := "java/lang/StringUTF16", name := "coderFromArrayLen", desc := "([BI)B" } : Jvm.MethodName) jdk_52_method_15_code (2 : Nat) (Option.some Jvm.ClassFile.FieldType.byte), Jvm.Cond.code ({ cls := "com/example/lane/lane/config/HostPort", name := "<init>", desc := "(Ljava/lang/String;I)V" } : Jvm.MethodName) prog_13_method_1_code (3 : Nat) (Option.none : Option Jvm.ClassFile.FieldType), Jvm.Cond.code ({ cls := "java/lang/Record", name := "<init>", desc := "()V" } : Jvm.MethodName) jdk_30_method_1_code (1 : Nat) (Option.none : Option Jvm.ClassFile.FieldType), Jvm.Cond.code ({ cls := "com/example/lane/lane/AccessRecord", name := "<init>", desc := "(Ljava/lang/String;J)V" } : Jvm.MethodName) prog_1_method_1_code (4 : Nat) (Option.none : Option Jvm.ClassFile.FieldType), Jvm.Cond.code ({ cls := "com/example/lane/lane/AccessRecord", name := "attempts", desc := "()I" } : Jvm.MethodName) prog_1_method_24_code (1 : Nat) (Option.some Jvm.ClassFile.FieldType.int), Jvm.Cond.code ({ cls := "com/example/lane/lane/AccessRecord", name := "upstream", desc := "()Ljava/lang/String;" } : Jvm.MethodName) prog_1_method_22_code (1 : Nat) (Option.some (Jvm.ClassFile.FieldType.object "java/lang/String")), Jvm.Cond.code ({ cls := "com/example/lane/lane/AccessRecord", name := "node", desc := "()Lcom/example/lane/lane/config/HostPort;" } : Jvm.MethodName) prog_1_method_23_code (1 : Nat) (Option.some (Jvm.ClassFile.FieldType.object "com/example/lane/lane/config/HostPort")), Jvm.Cond.code ({ cls := "com/example/lane/lane/AccessRecord", name := "status", desc := "()I" } : Jvm.MethodName) prog_1_method_18_code (1 : Nat) (Option.some Jvm.ClassFile.FieldType.int), Jvm.Cond.code ({ cls := "com/example/lane/lane/AccessRecord", name := "route", desc := "()Ljava/lang/String;" } : Jvm.MethodName) prog_1_method_20_code (1 : Nat) (Option.some (Jvm.ClassFile.FieldType.object "java/lang/String")), Jvm.Cond.code ({ cls := "com/example/lane/lane/AccessRecord", name := "tried", desc := "(Ljava/lang/String;Lcom/example/lane/lane/config/HostPort;)V" } : Jvm.MethodName) prog_1_method_8_code (3 : Nat) (Option.none : Option Jvm.ClassFile.FieldType)]
set_option maxRecDepth 65536 in
theorem codes_eq : words1.filter isCode = codes1 := rfl
theorem w_codes : ∀ c ∈ words1.filter isCode, c.before args0 about1 = true := by
  rw [codes_eq]
  intro c hc
  simp only [codes1, List.mem_cons, List.not_mem_nil, or_false] at hc
  rcases hc with rfl | rfl | rfl | rfl | rfl | rfl | rfl | rfl | rfl | rfl | rfl | rfl | rfl | rfl | rfl | rfl
  · exact w_c0
  · exact w_c1
  · exact w_c2
  · exact w_c3
  · exact w_c4
  · exact w_c5
  · exact w_c6
  · exact w_c7
  · exact w_c8
  · exact w_c9
  · exact w_c10
  · exact w_c11
  · exact w_c12
  · exact w_c13
  · exact w_c14
  · exact w_c15
set_option maxRecDepth 65536 in
theorem w_t1 : (words1.take 24).all (fun c => isCode c || c.before args0 about1) = true := by decide +kernel
set_option maxRecDepth 65536 in
theorem w_t2 : ((words1.drop 24).take 24).all (fun c => isCode c || c.before args0 about1) = true := by decide +kernel
set_option maxRecDepth 65536 in
theorem w_t3 : (((words1.drop 24).drop 24).take 24).all (fun c => isCode c || c.before args0 about1) = true := by decide +kernel
set_option maxRecDepth 65536 in
theorem w_t4 : ((((words1.drop 24).drop 24).drop 24).take 24).all (fun c => isCode c || c.before args0 about1) = true := by decide +kernel
set_option maxRecDepth 65536 in
theorem w_t5 : ((((words1.drop 24).drop 24).drop 24).drop 24).all (fun c => isCode c || c.before args0 about1) = true := by decide +kernel
theorem w_tables : (allAtoms (Jvm.Cond.code x code maxLocals ret :: tables_1)).before args0 about1 = true := by
  rw [allAtoms_all]
  show words1.all (fun c => c.before args0 about1) = true
  refine all_split ?_ w_codes
  rw [← List.take_append_drop 24 words1, List.all_append, w_t1, ← List.take_append_drop 24 (words1.drop 24), List.all_append, w_t2, ← List.take_append_drop 24 ((words1.drop 24).drop 24), List.all_append, w_t3, ← List.take_append_drop 24 (((words1.drop 24).drop 24).drop 24), List.all_append, w_t4, w_t5]
  rfl
set_option maxRecDepth 65536 in
theorem w_rest : rest_1_c.before args0 about1 = true := by decide +kernel
set_option maxRecDepth 65536 in
theorem w_case : (Jvm.Cond.and given_1 narrow_1).before args0 about1 = true := by decide +kernel
theorem w_applies : (headSpec (Jvm.Cond.code x code maxLocals ret :: tables_1) room_1).applies x e0.platform about1 = true :=
  (Spec.applies_iff w_frames).mpr ⟨w_running, w_runnable, w_alone, w_named, w_hears, w_ripe, w_room, w_tables⟩
theorem atStart : AtStart classFile x code maxLocals ret World_1 tables_1 room_1 Calls_1 rest_1 Pre_1 launch0 p0 e0 about1 theMethod args0 below0 :=
  ⟨lists_1, trivial, launch0.admits_env _ _ _, launch0.least_env, fairChoices_fair.cas, fairChoices_fair.clock, w_frames, w_args, w_heap, w_applies, trivial, w_rest, w_case⟩
end start1
theorem witness_1 : WitnessClaimed_1 := ⟨start1.p0, start1.e0, start1.about1, start1.theMethod, start1.args0, start1.below0, start1.atStart⟩
end Jvm.Pilot.@@N@@
