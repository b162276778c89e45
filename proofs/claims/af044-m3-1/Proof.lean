import JvmDerived
import JvmDerived.Pilot.@@N@@Statement
import JvmDerived.Pilot.@@N@@Code
set_option linter.unusedVariables false
set_option linter.unusedSimpArgs false
namespace Jvm.OwnKit
open Sem ClassFile Op Lib Jvm.Stand Jvm.Free Jvm.LawKit Jvm.RoadKit
section Kit
variable {p : Program} {l : Launch} {e : Env} {R : Room} {s : State} {m : MethodId} {args : Array Value} {below : List Frame} {meth : Method} {c : Code} {T : State} {locs : List Loc} {cells slots : Nat} {Z : State} {a0 : Array Value} {h h0 : Heap} {kc ks : Nat} {Q : Option Value → Heap → List Loc → Prop}
/-- from this state the body comes to its end, and Q holds of what it returns, of the heap there and of the places written -/
def Go (p : Program) (e : Env) (below : List Frame) (s : State) (kc ks : Nat) (Q : Option Value → Heap → List Loc → Prop) (a : State) : Prop :=
  ∃ (t : State) (o : Outcome), Steps p.tables e below a t ∧ t.status = .running ∧ Ended t below o ∧ ∃ v L, o = .returned v ∧ Q v t.heap L ∧ FrameEnd s o t L kc ks
theorem Go.of {a b : State} (st : ∀ t, Steps p.tables e below b t → Steps p.tables e below a t) (k : Go p e below s kc ks Q b) : Go p e below s kc ks Q a := by
  obtain ⟨t, o, h, r⟩ := k
  exact ⟨t, o, st t h, r⟩
theorem pad (X : Stand p l e R s m args below meth c T locs cells slots) {cells' slots' : Nat} (hc : cells ≤ cells') (hs : slots ≤ slots') : Stand p l e R s m args below meth c T locs cells' slots' :=
  ⟨X.admits, X.cas, X.clock, X.frames, X.room, X.hears, X.method, X.code, X.here, X.tail, X.warmed, X.limits, X.bytes, X.same.mono hc hs⟩
theorem Go.leave (X : Stand p l e R s m args below meth c T locs cells slots) (hlk : meth.locks = false) {v : Option Value} (hv : meth.sig.returnType = none → v = none) {g : JFrame}
    (st : ∀ fs, (∀ (f : JFrame) (acts : List Action), f.method = m → f.locked = none → f.entered = [] → (doReturn e (T.setTop f) acts v).1 = T.setFrames fs) → Steps p.tables e below (T.setTop g) (T.setFrames fs))
    (hc : cells ≤ kc) (hs : slots ≤ ks) (q : Q v T.heap locs) : Go p e below s kc ks Q (T.setTop g) := by
  obtain ⟨fs, hr, hrun, hended, hW, hsame⟩ := X.leave hv hlk
  exact ⟨_, _, st fs hr, hrun, hended, v, locs, rfl, q, ⟨_, rfl⟩, hW, hsame.mono hc hs⟩
theorem Go.retI (X : Stand p l e R s m args below meth c T locs cells slots) (hx : p.tables.exec = Jvm.exec) (hlk : meth.locks = false) (hret : meth.sig.returnType = some .int) {pc : Nat} {Ls : Array Slot} {z : Int32} {rest : List Value}
    (hd : decode c.code pc = .ok (.ireturn, 1)) (hc : cells ≤ kc) (hs : slots ≤ ks) (q : Q (some (.int z)) T.heap locs) : Go p e below s kc ks Q (T.setTop (mkF m pc Ls (.int z :: rest))) :=
  Go.leave X hlk (fun h => by rw [hret] at h; cases h) (fun fs hr => retOut X hx hret rfl (Or.inl ⟨rfl, Or.inl rfl, z, rfl⟩) hd hr) hc hs q
theorem Go.retN (X : Stand p l e R s m args below meth c T locs cells slots) (hx : p.tables.exec = Jvm.exec) (hlk : meth.locks = false) {t : FieldType} (hret : meth.sig.returnType = some t) (ht : t = .boolean ∨ t = .byte ∨ t = .char ∨ t = .short) {pc : Nat} {Ls : Array Slot} {z : Int32} {rest : List Value}
    (hd : decode c.code pc = .ok (.ireturn, 1)) (hz : nar t z = z) (hc : cells ≤ kc) (hs : slots ≤ ks) (q : Q (some (.int z)) T.heap locs) : Go p e below s kc ks Q (T.setTop (mkF m pc Ls (.int z :: rest))) :=
  Go.leave X hlk (fun h => by rw [hret] at h; cases h) (fun fs hr => RoadKit.retN X hx hret ht hd (by rw [hz]; exact hr)) hc hs q
theorem Go.retJ (X : Stand p l e R s m args below meth c T locs cells slots) (hx : p.tables.exec = Jvm.exec) (hlk : meth.locks = false) (hret : meth.sig.returnType = some .long) {pc : Nat} {Ls : Array Slot} {z : Int64} {rest : List Value}
    (hd : decode c.code pc = .ok (.lreturn, 1)) (hc : cells ≤ kc) (hs : slots ≤ ks) (q : Q (some (.long z)) T.heap locs) : Go p e below s kc ks Q (T.setTop (mkF m pc Ls (.long z :: rest))) :=
  Go.leave X hlk (fun h => by rw [hret] at h; cases h) (fun fs hr => retOut X hx hret rfl (Or.inr (Or.inl ⟨rfl, rfl, z, rfl⟩)) hd hr) hc hs q
theorem Go.retA (X : Stand p l e R s m args below meth c T locs cells slots) (hx : p.tables.exec = Jvm.exec) (hlk : meth.locks = false) {t : FieldType} (hret : meth.sig.returnType = some t) (ht : t.isReference = true) {pc : Nat} {Ls : Array Slot} {z : Value} {rest : List Value} (hz : z.isRef = true)
    (hd : decode c.code pc = .ok (.areturn, 1)) (hc : cells ≤ kc) (hs : slots ≤ ks) (q : Q (some z) T.heap locs) : Go p e below s kc ks Q (T.setTop (mkF m pc Ls (z :: rest))) :=
  Go.leave X hlk (fun h => by rw [hret] at h; cases h) (fun fs hr => retOut X hx hret (by cases t <;> first | rfl | (simp [FieldType.isReference] at ht; done)) (Or.inr (Or.inr (Or.inr (Or.inr ⟨rfl, ht, hz⟩)))) hd hr) hc hs q
theorem Go.retV (X : Stand p l e R s m args below meth c T locs cells slots) (hx : p.tables.exec = Jvm.exec) (hlk : meth.locks = false) (hret : meth.sig.returnType = none) {pc : Nat} {Ls : Array Slot}
    (hd : decode c.code pc = .ok (.return_, 1)) (hc : cells ≤ kc) (hs : slots ≤ ks) (q : Q none T.heap locs) : Go p e below s kc ks Q (T.setTop (mkF m pc Ls [])) :=
  Go.leave X hlk (fun _ => rfl) (fun fs hr => X.returnOut hx hret hd hr) hc hs q
/-- a body's contract: called with these arguments over this heap it returns, and Q holds -/
def Con (l : Launch) (Z : State) (y : MethodName) (bytes : ByteArray) (maxL : Nat) (ret : Option FieldType) (rm : Room) (as' : Array Value) (h0 : Heap) (Q : Option Value → Heap → List Loc → Prop) : Prop :=
  ∀ ws : List Cond, MetFree l y (head1 (Cond.code y bytes maxL ret :: ws) rm) (fun a U => a = as' ∧ Z.Warmed39 U.vm ∧ U.heap = h0) (fun _ _ _ _ _ => True) (fun _ U o U' => ∃ v L, o = .returned v ∧ Q v U'.heap L ∧ FrameEnd U o U' L rm.cells rm.slots)
theorem Con.intro {y : MethodName} {bytes : ByteArray} {maxL : Nat} {ret : Option FieldType} {rm : Room} {as' : Array Value} {gf : MethodId → JFrame} (hpl : plainFor y = true) (hef : ∀ m, entryFrame m as' maxL = gf m)
    (body : ∀ (p : Program) (e : Env) (s : State) (m : MethodId) (below : List Frame) (meth : Method) (c : Code) (s₁ : State), p.tables.exec = Jvm.exec → c.code = bytes → c.maxLocals = maxL → Z.Warmed39 s.vm → s.vm.findClass y.cls = some m.cls → meth.name = y.name → meth.sig.returnType = ret → meth.locks = false →
      Stand p l e rm s m as' below meth c s₁ [] 0 0 → s₁.heap = h0 → Go p e below s rm.cells rm.slots Q (s₁.setTop (gf m))) : Con l Z y bytes maxL ret rm as' h0 Q := by
  intro ws
  refine MetFree.of_bodySF hpl hisR ?_
  intro p e s m args below meth c s₁ Bd hml hP hK
  obtain ⟨rfl, hZ, hh⟩ := hP
  have k := body p e s m below meth c s₁ Bd.exec Bd.bytes hml hZ (findClass_of_methodNamed Bd.named) (name_of_methodNamed Bd.named Bd.method).1 Bd.returns Bd.notSynchronized (Stand.of_body Bd) (by rw [← hh, Bd.state]; rfl)
  rw [← hef m] at k
  exact k
theorem Go.static (X : Stand p l e R s m args below meth c T locs cells slots) (hx : p.tables.exec = Jvm.exec) (hZ : Z.Warmed39 s.vm) {own : String} {index : Nat} {y : MethodName} {bytes : ByteArray} {maxL : Nat} {ret : Option FieldType} {rm : Room} {Q' : Option Value → Heap → List Loc → Prop} {argsL : List Value}
    (hown : s.vm.findClass own = some m.cls) (w1 : (Cond.methodLink own index y).before a0 Z = true) (w2 : (Cond.static y).before a0 Z = true) (w3 : (Cond.initialized y.cls).before a0 Z = true) (w4 : (Cond.code y bytes maxL ret).before a0 Z = true)
    (hy : y.cls ≠ "java/lang/invoke/MethodHandle" ∧ y.cls ≠ "java/lang/invoke/VarHandle") (W : Nat) (eT : T.heap = h) (K : Con l Z y bytes maxL ret rm argsL.toArray h Q') (hf : rm.frames + 1 ≤ R.frames) (hlo : W + (maxL + 11) + rm.locals ≤ R.locals) (hc : cells + rm.cells ≤ R.cells) (hs : slots + rm.slots ≤ R.slots)
    {g : JFrame} (hg : g.method = m) (hsize : g.locals.size = c.maxLocals) {rest : List Value} (hlen : ∀ sig, parseMethodDescriptor y.desc = some sig → argsL.length = sig.parameters.length) (hstack : g.stack = argsL.reverse ++ rest) (hW : 2 * g.monitorRoom + (rest.map fun v => v.category).sum ≤ W)
    (hd : decode c.code g.pc = .ok (.invokestatic index, 3))
    (k : ∀ (T' : State) (v : Option Value) (L : List Loc), Stand p l e R s m args below meth c T' (locs ++ L) (cells + rm.cells) (slots + rm.slots) → Q' v T'.heap L → Go p e below s kc ks Q (T'.setTop { g with pc := g.pc + 3, stack := v.toList ++ rest })) : Go p e below s kc ks Q (T.setTop g) := by
  obtain ⟨v, _, ⟨T', L', k', n'⟩, -, X', ⟨Lc, hQ, l1, l2, l3⟩, st⟩ := Jvm.LawKit.callS X hx hown (mvT hZ w1) (mvT hZ w2) (mvT hZ w3) (mvT hZ w4) hy (backOf (W := W) (K []) hZ w4 w3 hf hlo) hg hsize hlen hstack hW hd (fun _ _ => ⟨rfl, eT, hc, hs⟩)
  dsimp only [Pt.U, Pt.locs, Pt.cells, Pt.slots] at X' l1 l2 l3 st hQ
  subst l1 l2 l3
  exact Go.of st (k T' v Lc X' hQ)
theorem Go.special (X : Stand p l e R s m args below meth c T locs cells slots) (hx : p.tables.exec = Jvm.exec) (hZ : Z.Warmed39 s.vm) {own : String} {index : Nat} {y : MethodName} {bytes : ByteArray} {maxL : Nat} {rm : Room} {Q' : Option Value → Heap → List Loc → Prop} {a : Addr} {argsL : List Value} (hy1 : y.name = "<init>")
    (hown : s.vm.findClass own = some m.cls) (w1 : (Cond.methodLink own index y).before a0 Z = true) (w2 : (Cond.instanceMethod y).before a0 Z = true) (w3 : (Cond.initialized y.cls).before a0 Z = true) (w4 : (Cond.code y bytes maxL none).before a0 Z = true)
    (hy : y.cls ≠ "java/lang/invoke/MethodHandle" ∧ y.cls ≠ "java/lang/invoke/VarHandle") (W : Nat) (eT : T.heap = h) (K : Con l Z y bytes maxL none rm (Value.ref a :: argsL).toArray h Q') (hf : rm.frames + 1 ≤ R.frames) (hlo : W + (maxL + 11) + rm.locals ≤ R.locals) (hc : cells + rm.cells ≤ R.cells) (hs : slots + rm.slots ≤ R.slots)
    {g : JFrame} (hg : g.method = m) (hsize : g.locals.size = c.maxLocals) {rest : List Value} (hlen : ∀ sig, parseMethodDescriptor y.desc = some sig → argsL.length = sig.parameters.length) (hstack : g.stack = argsL.reverse ++ .ref a :: rest) (hW : 2 * g.monitorRoom + (rest.map fun v => v.category).sum ≤ W)
    (hd : decode c.code g.pc = .ok (.invokespecial index, 3))
    (k : ∀ (T' : State) (v : Option Value) (L : List Loc), Stand p l e R s m args below meth c T' (locs ++ L) (cells + rm.cells) (slots + rm.slots) → Q' v T'.heap L → Go p e below s kc ks Q (T'.setTop { g with pc := g.pc + 3, stack := v.toList ++ rest })) : Go p e below s kc ks Q (T.setTop g) := by
  obtain ⟨v, _, ⟨T', L', k', n'⟩, -, X', ⟨Lc, hQ, l1, l2, l3⟩, st⟩ := X.specialBack hx hy1 hown (mvT hZ w1) (mvT hZ w2) (mvT hZ w4) hy (backOf (W := W) (K []) hZ w4 w3 hf hlo) hg hsize (Steps.refl _) hlen hstack hW hd (fun _ _ => ⟨rfl, eT, hc, hs⟩)
  dsimp only [Pt.U, Pt.locs, Pt.cells, Pt.slots] at X' l1 l2 l3 st hQ
  subst l1 l2 l3
  exact Go.of (fun _ q => st.trans q) (k T' v Lc X' hQ)
theorem Go.virtual (X : Stand p l e R s m args below meth c T locs cells slots) (hx : p.tables.exec = Jvm.exec) (hZ : Z.Warmed39 s.vm) {own C : String} {index : Nat} {y z : MethodName} {bytes : ByteArray} {maxL : Nat} {ret : Option FieldType} {rm : Room} {Q' : Option Value → Heap → List Loc → Prop} {a : Addr} {argsL : List Value}
    (hown : s.vm.findClass own = some m.cls) (w1 : (Cond.methodLink own index y).before a0 Z = true) (w2 : (Cond.declares y).before a0 Z = true) (hnf : NotFace s y) (w5 : (Cond.selects C y z).before a0 Z = true) (w6 : (Cond.instanceMethod z).before a0 Z = true) (w3 : (Cond.initialized z.cls).before a0 Z = true) (w4 : (Cond.code z bytes maxL ret).before a0 Z = true)
    (hy : y.cls ≠ "java/lang/invoke/MethodHandle" ∧ y.cls ≠ "java/lang/invoke/VarHandle") (W : Nat) (eT : T.heap = h) (E : Exa Z h a C) (K : Con l Z z bytes maxL ret rm (Value.ref a :: argsL).toArray h Q') (hf : rm.frames + 1 ≤ R.frames) (hlo : W + (maxL + 11) + rm.locals ≤ R.locals) (hc : cells + rm.cells ≤ R.cells) (hs : slots + rm.slots ≤ R.slots)
    {g : JFrame} (hg : g.method = m) (hsize : g.locals.size = c.maxLocals) {rest : List Value} (hlen : ∀ sig, parseMethodDescriptor y.desc = some sig → argsL.length = sig.parameters.length) (hstack : g.stack = argsL.reverse ++ .ref a :: rest) (hW : 2 * g.monitorRoom + (rest.map fun v => v.category).sum ≤ W)
    (hd : decode c.code g.pc = .ok (.invokevirtual index, 3))
    (k : ∀ (T' : State) (v : Option Value) (L : List Loc), Stand p l e R s m args below meth c T' (locs ++ L) (cells + rm.cells) (slots + rm.slots) → Q' v T'.heap L → Go p e below s kc ks Q (T'.setTop { g with pc := g.pc + 3, stack := v.toList ++ rest })) : Go p e below s kc ks Q (T.setTop g) := by
  obtain ⟨cq, kq, qa, -, qc⟩ := isOf hZ eT E
  obtain ⟨v, _, ⟨T', L', k', n'⟩, -, X', ⟨Lc, hQ, l1, l2, l3⟩, st⟩ := X.virtualBack hx hown (mvT hZ w1) (mvT hZ w2) hnf (mvT hZ w5) (mvT hZ w6) hy (backOf (W := W) (K []) hZ w4 w3 hf hlo) qa qc hg hsize (Steps.refl _) hlen hstack hW hd (fun _ _ => ⟨rfl, eT, hc, hs⟩)
  dsimp only [Pt.U, Pt.locs, Pt.cells, Pt.slots] at X' l1 l2 l3 st hQ
  subst l1 l2 l3
  exact Go.of (fun _ q => st.trans q) (k T' v Lc X' hQ)
theorem Go.virtualUp (X : Stand p l e R s m args below meth c T locs cells slots) (hx : p.tables.exec = Jvm.exec) (hZ : Z.Warmed39 s.vm) {own C owner : String} {index : Nat} {y z : MethodName} {bytes : ByteArray} {maxL : Nat} {ret : Option FieldType} {rm : Room} {Q' : Option Value → Heap → List Loc → Prop} {a : Addr} {argsL : List Value}
    (hown : s.vm.findClass own = some m.cls) (w1 : (Cond.methodLink own index y).before a0 Z = true) (w2 : (Cond.sameMethod y.cls owner y.name y.desc).before a0 Z = true) (w7 : (Cond.declares ⟨owner, y.name, y.desc⟩).before a0 Z = true) (w5 : (Cond.selects C y z).before a0 Z = true) (w6 : (Cond.instanceMethod z).before a0 Z = true) (w3 : (Cond.initialized z.cls).before a0 Z = true) (w4 : (Cond.code z bytes maxL ret).before a0 Z = true)
    (hy : owner ≠ "java/lang/invoke/MethodHandle" ∧ owner ≠ "java/lang/invoke/VarHandle") (W : Nat) (eT : T.heap = h) (E : Exa Z h a C) (K : Con l Z z bytes maxL ret rm (Value.ref a :: argsL).toArray h Q') (hf : rm.frames + 1 ≤ R.frames) (hlo : W + (maxL + 11) + rm.locals ≤ R.locals) (hc : cells + rm.cells ≤ R.cells) (hs : slots + rm.slots ≤ R.slots)
    {g : JFrame} (hg : g.method = m) (hsize : g.locals.size = c.maxLocals) {rest : List Value} (hlen : ∀ sig, parseMethodDescriptor y.desc = some sig → argsL.length = sig.parameters.length) (hstack : g.stack = argsL.reverse ++ .ref a :: rest) (hW : 2 * g.monitorRoom + (rest.map fun v => v.category).sum ≤ W)
    (hd : decode c.code g.pc = .ok (.invokevirtual index, 3))
    (k : ∀ (T' : State) (v : Option Value) (L : List Loc), Stand p l e R s m args below meth c T' (locs ++ L) (cells + rm.cells) (slots + rm.slots) → Q' v T'.heap L → Go p e below s kc ks Q (T'.setTop { g with pc := g.pc + 3, stack := v.toList ++ rest })) : Go p e below s kc ks Q (T.setTop g) := by
  obtain ⟨cq, kq, qa, -, qc⟩ := isOf hZ eT E
  obtain ⟨v, _, ⟨T', L', k', n'⟩, -, X', ⟨Lc, hQ, l1, l2, l3⟩, st⟩ := X.virtualBackUp hx hown (mvT hZ w1) (mvT hZ w2) (mvT hZ w7) hy (mvT hZ w5) (mvT hZ w6) (backOf (W := W) (K []) hZ w4 w3 hf hlo) qa qc hg hsize (Steps.refl _) hlen hstack hW hd (fun _ _ => ⟨rfl, eT, hc, hs⟩)
  dsimp only [Pt.U, Pt.locs, Pt.cells, Pt.slots] at X' l1 l2 l3 st hQ
  subst l1 l2 l3
  exact Go.of (fun _ q => st.trans q) (k T' v Lc X' hQ)
/-- a cast of what may be null -/
theorem castV (X : Stand p l e R s m args below meth c T locs cells slots) (hx : p.tables.exec = Jvm.exec) (hZ : Z.Warmed39 s.vm) {own K : String} {index : Nat} (hown : s.vm.findClass own = some m.cls) (w : (Cond.classLink own index K).before a0 Z = true) (eT : T.heap = h) {v : Value} (F : v = .null ∨ ∃ a, v = .ref a ∧ Ins Z h a K true)
    {g : JFrame} (hg : g.method = m) {rest : List Value} (hs : g.stack = v :: rest) (hd : decode c.code g.pc = .ok (.checkcast index, 3)) : ∃ T', Stand p l e R s m args below meth c T' locs cells slots ∧ T'.heap = h ∧ ∀ target, Steps p.tables e below (T'.setTop { g with pc := g.pc + 3 }) target → Steps p.tables e below (T.setTop g) target := by
  rcases F with rfl | ⟨a, rfl, I⟩
  · exact ⟨T, X, eT, fun target q => X.checkcastNull hx hg hs hd target q⟩
  · exact castY X hx hZ hown w eT I hg hs hd
end Kit
end Jvm.OwnKit
namespace Jvm.OwnKit
open Sem ClassFile Op Lib Jvm.Stand Jvm.Free Jvm.LawKit Jvm.RoadKit
section Arrays
variable {p : Program} {l : Launch} {e : Env} {R : Room} {s : State} {m : MethodId} {args : Array Value} {below : List Frame} {meth : Method} {c : Code} {T : State} {locs : List Loc} {cells slots : Nat} {Z : State} {a0 : Array Value} {h h' : Heap} {a b : Addr} {k : ClassId} {ty : FieldType} {n i : Nat} {f : Nat → Value} {sl : Nat} {v w : Value} {ws : List Addr} {j : Int32}
/-- the array at a: its class, its kind, its length, what it holds -/
def AF (Z : State) (h : Heap) (a : Addr) (k : ClassId) (ty : FieldType) (n : Nat) (f : Nat → Value) : Prop :=
  ∃ c : Cell, Arr Z h a c ty ∧ c.cls = k ∧ c.slots.size = n ∧ n < 2 ^ 31 ∧ ∀ i, i < n → c.slots[i]? = some (f i)
def updV (f : Nat → Value) (i : Nat) (v : Value) : Nat → Value := fun k => if k = i then v else f k
def upI (f : Nat → Int32) (i : Nat) (v : Int32) : Nat → Int32 := fun k => if k = i then v else f k
/-- the index j is the place i of an array of n -/
def Ix (j : Int32) (i n : Nat) : Prop := j.toNatClampNeg = i ∧ ¬ j < 0 ∧ i < n
theorem Ix.not_out {c : Cell} (q : Ix j i n) (S : c.slots.size = n) : ¬ (j < 0 ∨ c.slots.size ≤ j.toNatClampNeg) := by
  obtain ⟨q1, q2, q3⟩ := q
  rintro (r | r)
  · exact q2 r
  · rw [q1, S] at r; exact absurd q3 (Nat.not_lt.mpr r)
theorem AF.new {z : Int32} {d : Value} (A : Arr Z h a (newA k ty z) ty) (q : ¬ z < 0) (e : z.toNatClampNeg = n) (hd : defaultValue ty = d) : AF Z h a k ty n (fun _ => d) :=
  ⟨_, A, rfl, by rw [sz_new, e], by rw [← e]; exact (back32 q).2, fun i hi => by simp [newA, e, hi, hd]⟩
theorem AF.lt (F : AF Z h a k ty n f) : a < h.size := by obtain ⟨c, A, -⟩ := F; exact A.lt
theorem AF.ext (F : AF Z h a k ty n f) (E : Ext h h') : AF Z h' a k ty n f := by obtain ⟨c, A, r⟩ := F; exact ⟨c, A.ext E, r⟩
theorem AF.other (F : AF Z h b k ty n f) (W : Wr h h' a sl v) (q : b ≠ a) : AF Z h' b k ty n f := by obtain ⟨c, A, r⟩ := F; exact ⟨c, A.other W q, r⟩
theorem AF.keep (F : AF Z h a k ty n f) (K : Keep h h' ws) (q : a ∉ ws) : AF Z h' a k ty n f := by obtain ⟨c, A, r⟩ := F; exact ⟨c, ⟨K.2.1 a c A.1 q, A.2⟩, r⟩
theorem AF.cast {g : Nat → Value} (F : AF Z h a k ty n f) (q : ∀ i, i < n → f i = g i) : AF Z h a k ty n g := by obtain ⟨c, A, r1, r2, r3, H⟩ := F; exact ⟨c, A, r1, r2, r3, fun i hi => by rw [H i hi, q i hi]⟩
theorem AF.set (F : AF Z h a k ty n f) (W : Wr h h' a j.toNatClampNeg v) (q : Ix j i n) : AF Z h' a k ty n (updV f i v) := by
  obtain ⟨c, A, r1, r2, r3, H⟩ := F
  refine ⟨_, Arr.same W A, r1, by rw [sz_set]; exact r2, r3, fun x hx => ?_⟩
  rw [q.1]
  by_cases e : x = i
  · subst e
    simp [Cell.setSlot, updV, r2, hx]
  · have : (c.setSlot i v).slots[x]? = c.slots[x]? := Array.getElem?_setIfInBounds_ne (Ne.symm e)
    rw [this, H x hx]; simp [updV, e]
theorem AF.toI {g : Nat → Int32} {x : Int32} (F : AF Z h a k ty n (updV (fun i => .int (g i)) i (.int x))) : AF Z h a k ty n (fun j => .int ((upI g i x) j)) := F.cast fun j _ => by simp only [updV, upI]; split <;> rfl
theorem AF.length (F : AF Z h a k ty n f) (X : Stand p l e R s m args below meth c T locs cells slots) (hx : p.tables.exec = Jvm.exec) (hZ : Z.Warmed39 s.vm) (eT : T.heap = h) {z : Int32} (hz : n.toInt32 = z) {g : JFrame} (hg : g.method = m) {rest : List Value} (hs : g.stack = .ref a :: rest) (hd : decode c.code g.pc = .ok (.arraylength, 1)) {target : State}
    (q : Steps p.tables e below (T.setTop { g with pc := g.pc + 1, stack := .int z :: rest }) target) : Steps p.tables e below (T.setTop g) target := by
  obtain ⟨cl, A, r1, r2, r3, H⟩ := F
  refine X.arraylength hx (by rw [eT]; exact A.1) (State.isArrayOf_alike hZ.alike A.2.1) hg hs hd _ ?_
  rw [r2, hz]
  exact q
theorem AF.iaload (F : AF Z h a k .int n f) (X : Stand p l e R s m args below meth c T locs cells slots) (hx : p.tables.exec = Jvm.exec) (hZ : Z.Warmed39 s.vm) (eT : T.heap = h) (hi : Ix j i n) (hv : f i = v) {g : JFrame} (hg : g.method = m) {rest : List Value} (hs : g.stack = .int j :: .ref a :: rest) (hd : decode c.code g.pc = .ok (.iaload, 1)) {target : State}
    (q : Steps p.tables e below (T.setTop { g with pc := g.pc + 1, stack := v :: rest }) target) : Steps p.tables e below (T.setTop g) target := by
  obtain ⟨cl, A, r1, r2, r3, H⟩ := F
  exact X.iaload hx (by rw [eT]; exact A.1) (State.isArrayOf_alike hZ.alike A.2.1) A.2.2 (hi.not_out r2) (by rw [hi.1, H i hi.2.2, hv]) hg hs hd _ q
theorem AF.caload (F : AF Z h a k .char n f) (X : Stand p l e R s m args below meth c T locs cells slots) (hx : p.tables.exec = Jvm.exec) (hZ : Z.Warmed39 s.vm) (eT : T.heap = h) (hi : Ix j i n) (hv : f i = v) {g : JFrame} (hg : g.method = m) {rest : List Value} (hs : g.stack = .int j :: .ref a :: rest) (hd : decode c.code g.pc = .ok (.caload, 1)) {target : State}
    (q : Steps p.tables e below (T.setTop { g with pc := g.pc + 1, stack := v :: rest }) target) : Steps p.tables e below (T.setTop g) target := by
  obtain ⟨cl, A, r1, r2, r3, H⟩ := F
  exact X.caload hx (by rw [eT]; exact A.1) (State.isArrayOf_alike hZ.alike A.2.1) A.2.2 (hi.not_out r2) (by rw [hi.1, H i hi.2.2, hv]) hg hs hd _ q
theorem AF.baload (F : AF Z h a k .byte n f) (X : Stand p l e R s m args below meth c T locs cells slots) (hx : p.tables.exec = Jvm.exec) (hZ : Z.Warmed39 s.vm) (eT : T.heap = h) (hi : Ix j i n) (hv : f i = v) {g : JFrame} (hg : g.method = m) {rest : List Value} (hs : g.stack = .int j :: .ref a :: rest) (hd : decode c.code g.pc = .ok (.baload, 1)) {target : State}
    (q : Steps p.tables e below (T.setTop { g with pc := g.pc + 1, stack := v :: rest }) target) : Steps p.tables e below (T.setTop g) target := by
  obtain ⟨cl, A, r1, r2, r3, H⟩ := F
  exact X.baloadBytes hx (by rw [eT]; exact A.1) (State.isArrayOf_alike hZ.alike A.2.1) A.2.2 (hi.not_out r2) (by rw [hi.1, H i hi.2.2, hv]) hg hs hd _ q
theorem AF.aaload (F : AF Z h a k ty n f) (hty : ty.isReference = true) (X : Stand p l e R s m args below meth c T locs cells slots) (hx : p.tables.exec = Jvm.exec) (hZ : Z.Warmed39 s.vm) (eT : T.heap = h) (hi : Ix j i n) (hv : f i = v) {g : JFrame} (hg : g.method = m) {rest : List Value} (hs : g.stack = .int j :: .ref a :: rest) (hd : decode c.code g.pc = .ok (.aaload, 1)) {target : State}
    (q : Steps p.tables e below (T.setTop { g with pc := g.pc + 1, stack := v :: rest }) target) : Steps p.tables e below (T.setTop g) target := by
  obtain ⟨cl, A, r1, r2, r3, H⟩ := F
  exact X.aaload hx (by rw [eT]; exact A.1) (State.isArrayOf_alike hZ.alike A.2.1) hty A.2.2 (hi.not_out r2) (by rw [hi.1, H i hi.2.2, hv]) hg hs hd _ q
theorem AF.iastore (F : AF Z h a k .int n f) (X : Stand p l e R s m args below meth c T locs cells slots) (hx : p.tables.exec = Jvm.exec) (hZ : Z.Warmed39 s.vm) (eT : T.heap = h) (hi : Ix j i n) {x : Int32} {g : JFrame} (hg : g.method = m) {rest : List Value} (hs : g.stack = .int x :: .int j :: .ref a :: rest) (hd : decode c.code g.pc = .ok (.iastore, 1)) :
    ∃ T' h', Stand p l e R s m args below meth c T' (locs ++ [⟨a, j.toNatClampNeg⟩]) cells slots ∧ T'.heap = h' ∧ Wr h h' a j.toNatClampNeg (.int x) ∧ AF Z h' a k .int n (updV f i (.int x)) ∧ ∀ target, Steps p.tables e below (T'.setTop { g with pc := g.pc + 1, stack := rest }) target → Steps p.tables e below (T.setTop g) target := by
  have F0 := F
  obtain ⟨cl, A, r1, r2, r3, H⟩ := F
  obtain ⟨T', h', X', e', W', st'⟩ := stI X hx hZ eT A (hi.not_out r2) hg hs hd
  exact ⟨T', h', X', e', W', F0.set W' hi, st'⟩
theorem AF.castore (F : AF Z h a k .char n f) (X : Stand p l e R s m args below meth c T locs cells slots) (hx : p.tables.exec = Jvm.exec) (hZ : Z.Warmed39 s.vm) (eT : T.heap = h) (hi : Ix j i n) {x : Int32} {g : JFrame} (hg : g.method = m) {rest : List Value} (hs : g.stack = .int x :: .int j :: .ref a :: rest) (hd : decode c.code g.pc = .ok (.castore, 1)) :
    ∃ T' h', Stand p l e R s m args below meth c T' (locs ++ [⟨a, j.toNatClampNeg⟩]) cells slots ∧ T'.heap = h' ∧ Wr h h' a j.toNatClampNeg (.int (nar .char x)) ∧ AF Z h' a k .char n (updV f i (.int (nar .char x))) ∧ ∀ target, Steps p.tables e below (T'.setTop { g with pc := g.pc + 1, stack := rest }) target → Steps p.tables e below (T.setTop g) target := by
  have F0 := F
  obtain ⟨cl, A, r1, r2, r3, H⟩ := F
  obtain ⟨T', h', X', e', W', st'⟩ := stC X hx hZ eT A (hi.not_out r2) hg hs hd
  exact ⟨T', h', X', e', W', F0.set W' hi, st'⟩
theorem AF.bastore (F : AF Z h a k .byte n f) (X : Stand p l e R s m args below meth c T locs cells slots) (hx : p.tables.exec = Jvm.exec) (hZ : Z.Warmed39 s.vm) (eT : T.heap = h) (hi : Ix j i n) {x : Int32} {g : JFrame} (hg : g.method = m) {rest : List Value} (hs : g.stack = .int x :: .int j :: .ref a :: rest) (hd : decode c.code g.pc = .ok (.bastore, 1)) :
    ∃ T' h', Stand p l e R s m args below meth c T' (locs ++ [⟨a, j.toNatClampNeg⟩]) cells slots ∧ T'.heap = h' ∧ Wr h h' a j.toNatClampNeg (.int x.toInt8.toInt32) ∧ AF Z h' a k .byte n (updV f i (.int x.toInt8.toInt32)) ∧ ∀ target, Steps p.tables e below (T'.setTop { g with pc := g.pc + 1, stack := rest }) target → Steps p.tables e below (T.setTop g) target := by
  have F0 := F
  obtain ⟨cl, A, r1, r2, r3, H⟩ := F
  obtain ⟨T', h', X', e', W', st'⟩ := stB X hx hZ eT A (hi.not_out r2) hg hs hd
  exact ⟨T', h', X', e', W', F0.set W' hi, st'⟩
theorem AF.aastore (F : AF Z h a k ty n f) (hty : ty.isReference = true) (X : Stand p l e R s m args below meth c T locs cells slots) (hx : p.tables.exec = Jvm.exec) (hZ : Z.Warmed39 s.vm) (eT : T.heap = h) (hi : Ix j i n) (hsto : Sto Z h a v) {g : JFrame} (hg : g.method = m) {rest : List Value} (hs : g.stack = v :: .int j :: .ref a :: rest) (hd : decode c.code g.pc = .ok (.aastore, 1)) :
    ∃ T' h', Stand p l e R s m args below meth c T' (locs ++ [⟨a, j.toNatClampNeg⟩]) cells slots ∧ T'.heap = h' ∧ Wr h h' a j.toNatClampNeg v ∧ AF Z h' a k ty n (updV f i v) ∧ ∀ target, Steps p.tables e below (T'.setTop { g with pc := g.pc + 1, stack := rest }) target → Steps p.tables e below (T.setTop g) target := by
  have F0 := F
  obtain ⟨cl, A, r1, r2, r3, H⟩ := F
  obtain ⟨T', h', X', e', W', st'⟩ := stR X hx hZ eT A (hi.not_out r2) hty hsto hg hs hd
  exact ⟨T', h', X', e', W', F0.set W' hi, st'⟩
theorem AF.sto {C : String} {y : Addr} (F : AF Z h a k ty n f) (O : Ovr Z k C) (I : Ins Z h y C true) : Sto Z h a (.ref y) := by
  obtain ⟨cl, A, r1, -⟩ := F
  exact Sto.ofV A r1 O I
end Arrays
end Jvm.OwnKit
namespace Jvm.Pilot.@@N@@
open Jvm Jvm.ClassFile Sem Op Lib Jvm.Free Jvm.Stand Jvm.LawKit Jvm.RoadKit Jvm.OwnKit Bundle Jvm.Pilot.@@N@@.Jvm.D
theorem own_four (x : Int32) : (x &&& (3 : Int32)) = (0 : Int32) ∨ (x &&& (3 : Int32)) = (1 : Int32) ∨ (x &&& (3 : Int32)) = (2 : Int32) ∨ (x &&& (3 : Int32)) = (3 : Int32) := by
  have h : (x &&& (3 : Int32)).toBitVec.toNat < 4 := by
    rw [Int32.toBitVec_and, BitVec.toNat_and]
    exact Nat.lt_of_le_of_lt Nat.and_le_right (by decide)
  generalize (x &&& (3 : Int32)) = y at *
  have k : y.toBitVec.toNat = 0 ∨ y.toBitVec.toNat = 1 ∨ y.toBitVec.toNat = 2 ∨ y.toBitVec.toNat = 3 := by omega
  rcases k with k | k | k | k
  · left; exact Int32.toBitVec_inj.mp (BitVec.eq_of_toNat_eq k)
  · right; left; exact Int32.toBitVec_inj.mp (BitVec.eq_of_toNat_eq k)
  · right; right; left; exact Int32.toBitVec_inj.mp (BitVec.eq_of_toNat_eq k)
  · right; right; right; exact Int32.toBitVec_inj.mp (BitVec.eq_of_toNat_eq k)
theorem d5_0 : decode jdk_48_method_6_code 0 = .ok (.iload_n 2, 1) := by decide +kernel
theorem d5_1 : decode jdk_48_method_6_code 1 = .ok (.iload_n 3, 1) := by decide +kernel
theorem d5_2 : decode jdk_48_method_6_code 2 = .ok (.iadd, 1) := by decide +kernel
theorem d5_3 : decode jdk_48_method_6_code 3 = .ok (.istore 4, 2) := by decide +kernel
theorem d5_5 : decode jdk_48_method_6_code 5 = .ok (.iload_n 2, 1) := by decide +kernel
theorem d5_6 : decode jdk_48_method_6_code 6 = .ok (.istore 5, 2) := by decide +kernel
theorem d5_8 : decode jdk_48_method_6_code 8 = .ok (.iload 5, 2) := by decide +kernel
theorem d5_10 : decode jdk_48_method_6_code 10 = .ok (.iload 4, 2) := by decide +kernel
theorem d5_12 : decode jdk_48_method_6_code 12 = .ok (.if_icmp .ge 19, 3) := by decide +kernel
theorem d5_15 : decode jdk_48_method_6_code 15 = .ok (.bipush 31, 2) := by decide +kernel
theorem d5_17 : decode jdk_48_method_6_code 17 = .ok (.iload_n 0, 1) := by decide +kernel
theorem d5_18 : decode jdk_48_method_6_code 18 = .ok (.imul, 1) := by decide +kernel
theorem d5_19 : decode jdk_48_method_6_code 19 = .ok (.aload_n 1, 1) := by decide +kernel
theorem d5_20 : decode jdk_48_method_6_code 20 = .ok (.iload 5, 2) := by decide +kernel
theorem d5_22 : decode jdk_48_method_6_code 22 = .ok (.baload, 1) := by decide +kernel
theorem d5_23 : decode jdk_48_method_6_code 23 = .ok (.iadd, 1) := by decide +kernel
theorem d5_24 : decode jdk_48_method_6_code 24 = .ok (.istore_n 0, 1) := by decide +kernel
theorem d5_25 : decode jdk_48_method_6_code 25 = .ok (.iinc 5 1, 3) := by decide +kernel
theorem d5_28 : decode jdk_48_method_6_code 28 = .ok (.goto (-20), 3) := by decide +kernel
theorem d5_31 : decode jdk_48_method_6_code 31 = .ok (.iload_n 0, 1) := by decide +kernel
theorem d5_32 : decode jdk_48_method_6_code 32 = .ok (.ireturn, 1) := by decide +kernel
theorem pn0 : plainName "jdk/internal/util/ArraysSupport" = true := by first | (simp [plainName, overriddenIn]; done) | decide +kernel
theorem ef_5_2 (m : MethodId) (b : Addr) : entryFrame m #[(.int (1 : Int32)), (.ref b), (.int (0 : Int32)), (.int (2 : Int32))] 6 = mkF m 0 #[.val (.int (1 : Int32)), .val (.ref b), .val (.int (0 : Int32)), .val (.int (2 : Int32)), .unset, .unset] [] := by first | (simp [entryFrame, mkF, argsToLocals, Value.category]; done) | rfl
def Q5_2 (Z : State) (b : Addr) (kb : ClassId) (gb : Nat → Int32) (h0 : Heap) (n0 : Nat) (v : Option Value) (h : Heap) (L : List Loc) : Prop := ∃ z : Int32, v = some (.int z) ∧ Fr n0 L ∧ h = h0
set_option maxRecDepth 65536 in
set_option maxHeartbeats 40000000 in
theorem rm5_2 (l : Launch) (Z : State) (a0 : Array Value) (hw : ∀ d ∈ tables_1, d.before a0 Z = true) (b : Addr) (kb : ClassId) (gb : Nat → Int32) (h0 : Heap) (n0 : Nat) (Zs : n0 ≤ h0.size) (A_b : AF Z h0 b kb .byte 2 (fun i => .int (gb i))) :
    Con l Z (⟨"jdk/internal/util/ArraysSupport", "hashCode", "(I[BII)I"⟩ : MethodName) jdk_48_method_6_code 6 (some .int) ({ frames := 0, cells := 0, slots := 0, locals := 0 } : Room) #[(.int (1 : Int32)), (.ref b), (.int (0 : Int32)), (.int (2 : Int32))] h0 (Q5_2 Z b kb gb h0 n0) := by
  refine Con.intro (plainFor_of_name pn0) (fun m => ef_5_2 m b) ?_
  intro p e s m below meth c s₁ hx hby hml0 hZ hown hnm hret hlk X0 e0
  have hml : c.maxLocals = 6 := hml0
  have N0 := Fr.nil n0
  have Kp : Keep h0 h0 [] := Keep.refl h0 _
  show Go _ _ _ _ _ _ _ (s₁.setTop (mkF m 0 #[.val (.int (1 : Int32)), .val (.ref b), .val (.int (0 : Int32)), .val (.int (2 : Int32)), .unset, .unset] []))
  refine Go.of (fun _ q => XS.iloadN X0.here hx rfl (hb hby d5_0) rfl q) ?_
  show Go _ _ _ _ _ _ _ (s₁.setTop (mkF m 1 #[.val (.int (1 : Int32)), .val (.ref b), .val (.int (0 : Int32)), .val (.int (2 : Int32)), .unset, .unset] [(.int (0 : Int32))]))
  refine Go.of (fun _ q => XS.iloadN X0.here hx rfl (hb hby d5_1) rfl q) ?_
  show Go _ _ _ _ _ _ _ (s₁.setTop (mkF m 2 #[.val (.int (1 : Int32)), .val (.ref b), .val (.int (0 : Int32)), .val (.int (2 : Int32)), .unset, .unset] [(.int (2 : Int32)), (.int (0 : Int32))]))
  refine Go.of (fun _ q => XS.iadd X0.here hx rfl (hb hby d5_2) rfl q) ?_
  show Go _ _ _ _ _ _ _ (s₁.setTop (mkF m 3 #[.val (.int (1 : Int32)), .val (.ref b), .val (.int (0 : Int32)), .val (.int (2 : Int32)), .unset, .unset] [(.int (2 : Int32))]))
  refine Go.of (fun _ q => XS.istore X0.here hx rfl (hb hby d5_3) rfl (l' := #[.val (.int (1 : Int32)), .val (.ref b), .val (.int (0 : Int32)), .val (.int (2 : Int32)), .val (.int (2 : Int32)), .unset]) rfl q) ?_
  show Go _ _ _ _ _ _ _ (s₁.setTop (mkF m 5 #[.val (.int (1 : Int32)), .val (.ref b), .val (.int (0 : Int32)), .val (.int (2 : Int32)), .val (.int (2 : Int32)), .unset] []))
  refine Go.of (fun _ q => XS.iloadN X0.here hx rfl (hb hby d5_5) rfl q) ?_
  show Go _ _ _ _ _ _ _ (s₁.setTop (mkF m 6 #[.val (.int (1 : Int32)), .val (.ref b), .val (.int (0 : Int32)), .val (.int (2 : Int32)), .val (.int (2 : Int32)), .unset] [(.int (0 : Int32))]))
  refine Go.of (fun _ q => XS.istore X0.here hx rfl (hb hby d5_6) rfl (l' := #[.val (.int (1 : Int32)), .val (.ref b), .val (.int (0 : Int32)), .val (.int (2 : Int32)), .val (.int (2 : Int32)), .val (.int (0 : Int32))]) rfl q) ?_
  show Go _ _ _ _ _ _ _ (s₁.setTop (mkF m 8 #[.val (.int (1 : Int32)), .val (.ref b), .val (.int (0 : Int32)), .val (.int (2 : Int32)), .val (.int (2 : Int32)), .val (.int (0 : Int32))] []))
  refine Go.of (fun _ q => XS.iload X0.here hx rfl (hb hby d5_8) rfl q) ?_
  show Go _ _ _ _ _ _ _ (s₁.setTop (mkF m 10 #[.val (.int (1 : Int32)), .val (.ref b), .val (.int (0 : Int32)), .val (.int (2 : Int32)), .val (.int (2 : Int32)), .val (.int (0 : Int32))] [(.int (0 : Int32))]))
  refine Go.of (fun _ q => XS.iload X0.here hx rfl (hb hby d5_10) rfl q) ?_
  show Go _ _ _ _ _ _ _ (s₁.setTop (mkF m 12 #[.val (.int (1 : Int32)), .val (.ref b), .val (.int (0 : Int32)), .val (.int (2 : Int32)), .val (.int (2 : Int32)), .val (.int (0 : Int32))] [(.int (2 : Int32)), (.int (0 : Int32))]))
  refine Go.of (fun _ q => XS.icmpNo X0.here hx rfl (hb hby d5_12) rfl (tlt (by decide)).2.1 q) ?_
  show Go _ _ _ _ _ _ _ (s₁.setTop (mkF m 15 #[.val (.int (1 : Int32)), .val (.ref b), .val (.int (0 : Int32)), .val (.int (2 : Int32)), .val (.int (2 : Int32)), .val (.int (0 : Int32))] []))
  refine Go.of (fun _ q => XS.bipush X0.here hx rfl (hb hby d5_15) q) ?_
  show Go _ _ _ _ _ _ _ (s₁.setTop (mkF m 17 #[.val (.int (1 : Int32)), .val (.ref b), .val (.int (0 : Int32)), .val (.int (2 : Int32)), .val (.int (2 : Int32)), .val (.int (0 : Int32))] [(.int (31 : Int32))]))
  refine Go.of (fun _ q => XS.iloadN X0.here hx rfl (hb hby d5_17) rfl q) ?_
  show Go _ _ _ _ _ _ _ (s₁.setTop (mkF m 18 #[.val (.int (1 : Int32)), .val (.ref b), .val (.int (0 : Int32)), .val (.int (2 : Int32)), .val (.int (2 : Int32)), .val (.int (0 : Int32))] [(.int (1 : Int32)), (.int (31 : Int32))]))
  refine Go.of (fun _ q => XS.imul X0.here hx rfl (hb hby d5_18) rfl q) ?_
  show Go _ _ _ _ _ _ _ (s₁.setTop (mkF m 19 #[.val (.int (1 : Int32)), .val (.ref b), .val (.int (0 : Int32)), .val (.int (2 : Int32)), .val (.int (2 : Int32)), .val (.int (0 : Int32))] [(.int (31 : Int32))]))
  refine Go.of (fun _ q => XS.aloadN X0.here hx rfl (hb hby d5_19) rfl rfl q) ?_
  show Go _ _ _ _ _ _ _ (s₁.setTop (mkF m 20 #[.val (.int (1 : Int32)), .val (.ref b), .val (.int (0 : Int32)), .val (.int (2 : Int32)), .val (.int (2 : Int32)), .val (.int (0 : Int32))] [(.ref b), (.int (31 : Int32))]))
  refine Go.of (fun _ q => XS.iload X0.here hx rfl (hb hby d5_20) rfl q) ?_
  show Go _ _ _ _ _ _ _ (s₁.setTop (mkF m 22 #[.val (.int (1 : Int32)), .val (.ref b), .val (.int (0 : Int32)), .val (.int (2 : Int32)), .val (.int (2 : Int32)), .val (.int (0 : Int32))] [(.int (0 : Int32)), (.ref b), (.int (31 : Int32))]))
  refine Go.of (fun _ q => AF.baload A_b X0 hx hZ e0 ⟨rfl, by decide, by decide⟩ (v := (.int (gb 0))) rfl (g := (mkF m 22 #[.val (.int (1 : Int32)), .val (.ref b), .val (.int (0 : Int32)), .val (.int (2 : Int32)), .val (.int (2 : Int32)), .val (.int (0 : Int32))] [(.int (0 : Int32)), (.ref b), (.int (31 : Int32))])) rfl rfl (hb hby d5_22) q) ?_
  show Go _ _ _ _ _ _ _ (s₁.setTop (mkF m 23 #[.val (.int (1 : Int32)), .val (.ref b), .val (.int (0 : Int32)), .val (.int (2 : Int32)), .val (.int (2 : Int32)), .val (.int (0 : Int32))] [(.int (gb 0)), (.int (31 : Int32))]))
  refine Go.of (fun _ q => XS.iadd X0.here hx rfl (hb hby d5_23) rfl q) ?_
  show Go _ _ _ _ _ _ _ (s₁.setTop (mkF m 24 #[.val (.int (1 : Int32)), .val (.ref b), .val (.int (0 : Int32)), .val (.int (2 : Int32)), .val (.int (2 : Int32)), .val (.int (0 : Int32))] [(.int ((31 : Int32) + (gb 0)))]))
  refine Go.of (fun _ q => XS.istoreN X0.here hx rfl (hb hby d5_24) rfl (l' := #[.val (.int ((31 : Int32) + (gb 0))), .val (.ref b), .val (.int (0 : Int32)), .val (.int (2 : Int32)), .val (.int (2 : Int32)), .val (.int (0 : Int32))]) rfl q) ?_
  show Go _ _ _ _ _ _ _ (s₁.setTop (mkF m 25 #[.val (.int ((31 : Int32) + (gb 0))), .val (.ref b), .val (.int (0 : Int32)), .val (.int (2 : Int32)), .val (.int (2 : Int32)), .val (.int (0 : Int32))] []))
  refine Go.of (fun _ q => XS.iinc X0.here hx rfl (hb hby d5_25) rfl (l' := #[.val (.int ((31 : Int32) + (gb 0))), .val (.ref b), .val (.int (0 : Int32)), .val (.int (2 : Int32)), .val (.int (2 : Int32)), .val (.int (1 : Int32))]) rfl q) ?_
  show Go _ _ _ _ _ _ _ (s₁.setTop (mkF m 28 #[.val (.int ((31 : Int32) + (gb 0))), .val (.ref b), .val (.int (0 : Int32)), .val (.int (2 : Int32)), .val (.int (2 : Int32)), .val (.int (1 : Int32))] []))
  refine Go.of (fun _ q => XS.goto X0.here hx rfl (pc0 := 28) (pc' := 8) rfl (hb hby d5_28) (by decide) (by decide) q) ?_
  show Go _ _ _ _ _ _ _ (s₁.setTop (mkF m 8 #[.val (.int ((31 : Int32) + (gb 0))), .val (.ref b), .val (.int (0 : Int32)), .val (.int (2 : Int32)), .val (.int (2 : Int32)), .val (.int (1 : Int32))] []))
  refine Go.of (fun _ q => XS.iload X0.here hx rfl (hb hby d5_8) rfl q) ?_
  show Go _ _ _ _ _ _ _ (s₁.setTop (mkF m 10 #[.val (.int ((31 : Int32) + (gb 0))), .val (.ref b), .val (.int (0 : Int32)), .val (.int (2 : Int32)), .val (.int (2 : Int32)), .val (.int (1 : Int32))] [(.int (1 : Int32))]))
  refine Go.of (fun _ q => XS.iload X0.here hx rfl (hb hby d5_10) rfl q) ?_
  show Go _ _ _ _ _ _ _ (s₁.setTop (mkF m 12 #[.val (.int ((31 : Int32) + (gb 0))), .val (.ref b), .val (.int (0 : Int32)), .val (.int (2 : Int32)), .val (.int (2 : Int32)), .val (.int (1 : Int32))] [(.int (2 : Int32)), (.int (1 : Int32))]))
  refine Go.of (fun _ q => XS.icmpNo X0.here hx rfl (hb hby d5_12) rfl (tlt (by decide)).2.1 q) ?_
  show Go _ _ _ _ _ _ _ (s₁.setTop (mkF m 15 #[.val (.int ((31 : Int32) + (gb 0))), .val (.ref b), .val (.int (0 : Int32)), .val (.int (2 : Int32)), .val (.int (2 : Int32)), .val (.int (1 : Int32))] []))
  refine Go.of (fun _ q => XS.bipush X0.here hx rfl (hb hby d5_15) q) ?_
  show Go _ _ _ _ _ _ _ (s₁.setTop (mkF m 17 #[.val (.int ((31 : Int32) + (gb 0))), .val (.ref b), .val (.int (0 : Int32)), .val (.int (2 : Int32)), .val (.int (2 : Int32)), .val (.int (1 : Int32))] [(.int (31 : Int32))]))
  refine Go.of (fun _ q => XS.iloadN X0.here hx rfl (hb hby d5_17) rfl q) ?_
  show Go _ _ _ _ _ _ _ (s₁.setTop (mkF m 18 #[.val (.int ((31 : Int32) + (gb 0))), .val (.ref b), .val (.int (0 : Int32)), .val (.int (2 : Int32)), .val (.int (2 : Int32)), .val (.int (1 : Int32))] [(.int ((31 : Int32) + (gb 0))), (.int (31 : Int32))]))
  refine Go.of (fun _ q => XS.imul X0.here hx rfl (hb hby d5_18) rfl q) ?_
  show Go _ _ _ _ _ _ _ (s₁.setTop (mkF m 19 #[.val (.int ((31 : Int32) + (gb 0))), .val (.ref b), .val (.int (0 : Int32)), .val (.int (2 : Int32)), .val (.int (2 : Int32)), .val (.int (1 : Int32))] [(.int ((31 : Int32) * ((31 : Int32) + (gb 0))))]))
  refine Go.of (fun _ q => XS.aloadN X0.here hx rfl (hb hby d5_19) rfl rfl q) ?_
  show Go _ _ _ _ _ _ _ (s₁.setTop (mkF m 20 #[.val (.int ((31 : Int32) + (gb 0))), .val (.ref b), .val (.int (0 : Int32)), .val (.int (2 : Int32)), .val (.int (2 : Int32)), .val (.int (1 : Int32))] [(.ref b), (.int ((31 : Int32) * ((31 : Int32) + (gb 0))))]))
  refine Go.of (fun _ q => XS.iload X0.here hx rfl (hb hby d5_20) rfl q) ?_
  show Go _ _ _ _ _ _ _ (s₁.setTop (mkF m 22 #[.val (.int ((31 : Int32) + (gb 0))), .val (.ref b), .val (.int (0 : Int32)), .val (.int (2 : Int32)), .val (.int (2 : Int32)), .val (.int (1 : Int32))] [(.int (1 : Int32)), (.ref b), (.int ((31 : Int32) * ((31 : Int32) + (gb 0))))]))
  refine Go.of (fun _ q => AF.baload A_b X0 hx hZ e0 ⟨rfl, by decide, by decide⟩ (v := (.int (gb 1))) rfl (g := (mkF m 22 #[.val (.int ((31 : Int32) + (gb 0))), .val (.ref b), .val (.int (0 : Int32)), .val (.int (2 : Int32)), .val (.int (2 : Int32)), .val (.int (1 : Int32))] [(.int (1 : Int32)), (.ref b), (.int ((31 : Int32) * ((31 : Int32) + (gb 0))))])) rfl rfl (hb hby d5_22) q) ?_
  show Go _ _ _ _ _ _ _ (s₁.setTop (mkF m 23 #[.val (.int ((31 : Int32) + (gb 0))), .val (.ref b), .val (.int (0 : Int32)), .val (.int (2 : Int32)), .val (.int (2 : Int32)), .val (.int (1 : Int32))] [(.int (gb 1)), (.int ((31 : Int32) * ((31 : Int32) + (gb 0))))]))
  refine Go.of (fun _ q => XS.iadd X0.here hx rfl (hb hby d5_23) rfl q) ?_
  show Go _ _ _ _ _ _ _ (s₁.setTop (mkF m 24 #[.val (.int ((31 : Int32) + (gb 0))), .val (.ref b), .val (.int (0 : Int32)), .val (.int (2 : Int32)), .val (.int (2 : Int32)), .val (.int (1 : Int32))] [(.int (((31 : Int32) * ((31 : Int32) + (gb 0))) + (gb 1)))]))
  refine Go.of (fun _ q => XS.istoreN X0.here hx rfl (hb hby d5_24) rfl (l' := #[.val (.int (((31 : Int32) * ((31 : Int32) + (gb 0))) + (gb 1))), .val (.ref b), .val (.int (0 : Int32)), .val (.int (2 : Int32)), .val (.int (2 : Int32)), .val (.int (1 : Int32))]) rfl q) ?_
  show Go _ _ _ _ _ _ _ (s₁.setTop (mkF m 25 #[.val (.int (((31 : Int32) * ((31 : Int32) + (gb 0))) + (gb 1))), .val (.ref b), .val (.int (0 : Int32)), .val (.int (2 : Int32)), .val (.int (2 : Int32)), .val (.int (1 : Int32))] []))
  refine Go.of (fun _ q => XS.iinc X0.here hx rfl (hb hby d5_25) rfl (l' := #[.val (.int (((31 : Int32) * ((31 : Int32) + (gb 0))) + (gb 1))), .val (.ref b), .val (.int (0 : Int32)), .val (.int (2 : Int32)), .val (.int (2 : Int32)), .val (.int (2 : Int32))]) rfl q) ?_
  show Go _ _ _ _ _ _ _ (s₁.setTop (mkF m 28 #[.val (.int (((31 : Int32) * ((31 : Int32) + (gb 0))) + (gb 1))), .val (.ref b), .val (.int (0 : Int32)), .val (.int (2 : Int32)), .val (.int (2 : Int32)), .val (.int (2 : Int32))] []))
  refine Go.of (fun _ q => XS.goto X0.here hx rfl (pc0 := 28) (pc' := 8) rfl (hb hby d5_28) (by decide) (by decide) q) ?_
  show Go _ _ _ _ _ _ _ (s₁.setTop (mkF m 8 #[.val (.int (((31 : Int32) * ((31 : Int32) + (gb 0))) + (gb 1))), .val (.ref b), .val (.int (0 : Int32)), .val (.int (2 : Int32)), .val (.int (2 : Int32)), .val (.int (2 : Int32))] []))
  refine Go.of (fun _ q => XS.iload X0.here hx rfl (hb hby d5_8) rfl q) ?_
  show Go _ _ _ _ _ _ _ (s₁.setTop (mkF m 10 #[.val (.int (((31 : Int32) * ((31 : Int32) + (gb 0))) + (gb 1))), .val (.ref b), .val (.int (0 : Int32)), .val (.int (2 : Int32)), .val (.int (2 : Int32)), .val (.int (2 : Int32))] [(.int (2 : Int32))]))
  refine Go.of (fun _ q => XS.iload X0.here hx rfl (hb hby d5_10) rfl q) ?_
  show Go _ _ _ _ _ _ _ (s₁.setTop (mkF m 12 #[.val (.int (((31 : Int32) * ((31 : Int32) + (gb 0))) + (gb 1))), .val (.ref b), .val (.int (0 : Int32)), .val (.int (2 : Int32)), .val (.int (2 : Int32)), .val (.int (2 : Int32))] [(.int (2 : Int32)), (.int (2 : Int32))]))
  refine Go.of (fun _ q => XS.icmpYes X0.here hx rfl (pc0 := 12) (pc' := 31) rfl (hb hby d5_12) rfl (flt (by decide)).2.1 (by decide) (by decide) q) ?_
  show Go _ _ _ _ _ _ _ (s₁.setTop (mkF m 31 #[.val (.int (((31 : Int32) * ((31 : Int32) + (gb 0))) + (gb 1))), .val (.ref b), .val (.int (0 : Int32)), .val (.int (2 : Int32)), .val (.int (2 : Int32)), .val (.int (2 : Int32))] []))
  refine Go.of (fun _ q => XS.iloadN X0.here hx rfl (hb hby d5_31) rfl q) ?_
  show Go _ _ _ _ _ _ _ (s₁.setTop (mkF m 32 #[.val (.int (((31 : Int32) * ((31 : Int32) + (gb 0))) + (gb 1))), .val (.ref b), .val (.int (0 : Int32)), .val (.int (2 : Int32)), .val (.int (2 : Int32)), .val (.int (2 : Int32))] [(.int (((31 : Int32) * ((31 : Int32) + (gb 0))) + (gb 1)))]))
  refine Go.retI X0 hx hlk hret (hb hby d5_32) (by decide) (by decide) ?_
  rw [e0]
  exact ⟨(((31 : Int32) * ((31 : Int32) + (gb 0))) + (gb 1)), rfl, N0, rfl⟩
theorem pd0 : parseMethodDescriptor "(I[BII)I" = some ⟨[.int, (.array .byte), .int, .int], some .int⟩ := by decide +kernel
theorem d4_0 : decode jdk_48_method_4_code 0 = .ok (.iload 4, 2) := by decide +kernel
theorem d4_2 : decode jdk_48_method_4_code 2 = .ok (.tableswitch 127 4 10 #[42, 55, 127, 127, 88, 101, 114], 42) := by decide +kernel
theorem d4_90 : decode jdk_48_method_4_code 90 = .ok (.iload_n 3, 1) := by decide +kernel
theorem d4_91 : decode jdk_48_method_4_code 91 = .ok (.aload_n 0, 1) := by decide +kernel
theorem d4_92 : decode jdk_48_method_4_code 92 = .ok (.checkcast 60, 3) := by decide +kernel
theorem d4_95 : decode jdk_48_method_4_code 95 = .ok (.iload_n 1, 1) := by decide +kernel
theorem d4_96 : decode jdk_48_method_4_code 96 = .ok (.iload_n 2, 1) := by decide +kernel
theorem d4_97 : decode jdk_48_method_4_code 97 = .ok (.invokestatic 75, 3) := by decide +kernel
theorem d4_100 : decode jdk_48_method_4_code 100 = .ok (.goto 57, 3) := by decide +kernel
theorem d4_157 : decode jdk_48_method_4_code 157 = .ok (.ireturn, 1) := by decide +kernel
theorem ef_4_2 (m : MethodId) (b : Addr) : entryFrame m #[(.ref b), (.int (0 : Int32)), (.int (2 : Int32)), (.int (1 : Int32)), (.int (8 : Int32))] 5 = mkF m 0 #[.val (.ref b), .val (.int (0 : Int32)), .val (.int (2 : Int32)), .val (.int (1 : Int32)), .val (.int (8 : Int32))] [] := by first | (simp [entryFrame, mkF, argsToLocals, Value.category]; done) | rfl
def Q4_2 (Z : State) (b : Addr) (kb : ClassId) (gb : Nat → Int32) (h0 : Heap) (n0 : Nat) (v : Option Value) (h : Heap) (L : List Loc) : Prop := ∃ z : Int32, v = some (.int z) ∧ Fr n0 L ∧ h = h0
set_option maxRecDepth 65536 in
set_option maxHeartbeats 40000000 in
theorem rm4_2 (l : Launch) (Z : State) (a0 : Array Value) (hw : ∀ d ∈ tables_1, d.before a0 Z = true) (b : Addr) (kb : ClassId) (gb : Nat → Int32) (h0 : Heap) (n0 : Nat) (Zs : n0 ≤ h0.size) (A_b : AF Z h0 b kb .byte 2 (fun i => .int (gb i))) (E_b : Exa Z h0 b "[B") :
    Con l Z (⟨"jdk/internal/util/ArraysSupport", "vectorizedHashCode", "(Ljava/lang/Object;IIII)I"⟩ : MethodName) jdk_48_method_4_code 5 (some .int) ({ frames := 1, cells := 0, slots := 0, locals := 17 } : Room) #[(.ref b), (.int (0 : Int32)), (.int (2 : Int32)), (.int (1 : Int32)), (.int (8 : Int32))] h0 (Q4_2 Z b kb gb h0 n0) := by
  refine Con.intro (plainFor_of_name pn0) (fun m => ef_4_2 m b) ?_
  intro p e s m below meth c s₁ hx hby hml0 hZ hown hnm hret hlk X0 e0
  have hml : c.maxLocals = 5 := hml0
  have N0 := Fr.nil n0
  have Kp : Keep h0 h0 [] := Keep.refl h0 _
  show Go _ _ _ _ _ _ _ (s₁.setTop (mkF m 0 #[.val (.ref b), .val (.int (0 : Int32)), .val (.int (2 : Int32)), .val (.int (1 : Int32)), .val (.int (8 : Int32))] []))
  refine Go.of (fun _ q => XS.iload X0.here hx rfl (hb hby d4_0) rfl q) ?_
  show Go _ _ _ _ _ _ _ (s₁.setTop (mkF m 2 #[.val (.ref b), .val (.int (0 : Int32)), .val (.int (2 : Int32)), .val (.int (1 : Int32)), .val (.int (8 : Int32))] [(.int (8 : Int32))]))
  refine Go.of (fun _ q => XS.tswIn X0.here hx rfl (pc0 := 2) (pc' := 90) rfl (hb hby d4_2) rfl (by decide) (o := 88) (by decide) (by decide) (by decide) q) ?_
  show Go _ _ _ _ _ _ _ (s₁.setTop (mkF m 90 #[.val (.ref b), .val (.int (0 : Int32)), .val (.int (2 : Int32)), .val (.int (1 : Int32)), .val (.int (8 : Int32))] []))
  refine Go.of (fun _ q => XS.iloadN X0.here hx rfl (hb hby d4_90) rfl q) ?_
  show Go _ _ _ _ _ _ _ (s₁.setTop (mkF m 91 #[.val (.ref b), .val (.int (0 : Int32)), .val (.int (2 : Int32)), .val (.int (1 : Int32)), .val (.int (8 : Int32))] [(.int (1 : Int32))]))
  refine Go.of (fun _ q => XS.aloadN X0.here hx rfl (hb hby d4_91) rfl rfl q) ?_
  show Go _ _ _ _ _ _ _ (s₁.setTop (mkF m 92 #[.val (.ref b), .val (.int (0 : Int32)), .val (.int (2 : Int32)), .val (.int (1 : Int32)), .val (.int (8 : Int32))] [(.ref b), (.int (1 : Int32))]))
  obtain ⟨T1, X1, e1, st1⟩ := castY X0 hx hZ hown (hw _ (List.mem_of_getElem? (i := 22) rfl)) e0 (Ins.of_exa E_b (hw _ (List.mem_of_getElem? (i := 23) rfl))) (g := (mkF m 92 #[.val (.ref b), .val (.int (0 : Int32)), .val (.int (2 : Int32)), .val (.int (1 : Int32)), .val (.int (8 : Int32))] [(.ref b), (.int (1 : Int32))])) rfl rfl (hb hby d4_92)
  refine Go.of st1 ?_
  show Go _ _ _ _ _ _ _ (T1.setTop (mkF m 95 #[.val (.ref b), .val (.int (0 : Int32)), .val (.int (2 : Int32)), .val (.int (1 : Int32)), .val (.int (8 : Int32))] [(.ref b), (.int (1 : Int32))]))
  refine Go.of (fun _ q => XS.iloadN X1.here hx rfl (hb hby d4_95) rfl q) ?_
  show Go _ _ _ _ _ _ _ (T1.setTop (mkF m 96 #[.val (.ref b), .val (.int (0 : Int32)), .val (.int (2 : Int32)), .val (.int (1 : Int32)), .val (.int (8 : Int32))] [(.int (0 : Int32)), (.ref b), (.int (1 : Int32))]))
  refine Go.of (fun _ q => XS.iloadN X1.here hx rfl (hb hby d4_96) rfl q) ?_
  show Go _ _ _ _ _ _ _ (T1.setTop (mkF m 97 #[.val (.ref b), .val (.int (0 : Int32)), .val (.int (2 : Int32)), .val (.int (1 : Int32)), .val (.int (8 : Int32))] [(.int (2 : Int32)), (.int (0 : Int32)), (.ref b), (.int (1 : Int32))]))
  refine Go.static X1 hx hZ (y := (⟨"jdk/internal/util/ArraysSupport", "hashCode", "(I[BII)I"⟩ : MethodName)) (argsL := [(.int (1 : Int32)), (.ref b), (.int (0 : Int32)), (.int (2 : Int32))]) hown (hw _ (List.mem_of_getElem? (i := 24) rfl)) (hw _ (List.mem_of_getElem? (i := 25) rfl)) (hw _ (List.mem_of_getElem? (i := 20) rfl)) (hw _ (List.mem_of_getElem? (i := 26) rfl)) (by decide) 0 e1 (rm5_2 l Z a0 hw b kb gb h0 n0 Zs A_b) (by decide) (by decide) (by decide) (by decide) (g := (mkF m 97 #[.val (.ref b), .val (.int (0 : Int32)), .val (.int (2 : Int32)), .val (.int (1 : Int32)), .val (.int (8 : Int32))] [(.int (2 : Int32)), (.int (0 : Int32)), (.ref b), (.int (1 : Int32))])) rfl (by rw [hml]; rfl) (rest := []) (lenOf pd0 rfl) rfl (by show 2 * 0 + _ ≤ _; exact Nat.le_of_eq rfl) (hb hby d4_97) ?_
  intro T2 v2 L2 X2 q2
  obtain ⟨z1, rfl, Nq2, e2⟩ := q2
  have N2 := Fr.app N0 Nq2
  show Go _ _ _ _ _ _ _ (T2.setTop (mkF m 100 #[.val (.ref b), .val (.int (0 : Int32)), .val (.int (2 : Int32)), .val (.int (1 : Int32)), .val (.int (8 : Int32))] [(.int z1)]))
  refine Go.of (fun _ q => XS.goto X2.here hx rfl (pc0 := 100) (pc' := 157) rfl (hb hby d4_100) (by decide) (by decide) q) ?_
  show Go _ _ _ _ _ _ _ (T2.setTop (mkF m 157 #[.val (.ref b), .val (.int (0 : Int32)), .val (.int (2 : Int32)), .val (.int (1 : Int32)), .val (.int (8 : Int32))] [(.int z1)]))
  refine Go.retI X2 hx hlk hret (hb hby d4_157) (by decide) (by decide) ?_
  rw [e2]
  exact ⟨z1, rfl, N2, rfl⟩
theorem ef_5_3 (m : MethodId) (b : Addr) : entryFrame m #[(.int (1 : Int32)), (.ref b), (.int (0 : Int32)), (.int (3 : Int32))] 6 = mkF m 0 #[.val (.int (1 : Int32)), .val (.ref b), .val (.int (0 : Int32)), .val (.int (3 : Int32)), .unset, .unset] [] := by first | (simp [entryFrame, mkF, argsToLocals, Value.category]; done) | rfl
def Q5_3 (Z : State) (b : Addr) (kb : ClassId) (gb : Nat → Int32) (h0 : Heap) (n0 : Nat) (v : Option Value) (h : Heap) (L : List Loc) : Prop := ∃ z : Int32, v = some (.int z) ∧ Fr n0 L ∧ h = h0
set_option maxRecDepth 65536 in
set_option maxHeartbeats 40000000 in
theorem rm5_3 (l : Launch) (Z : State) (a0 : Array Value) (hw : ∀ d ∈ tables_1, d.before a0 Z = true) (b : Addr) (kb : ClassId) (gb : Nat → Int32) (h0 : Heap) (n0 : Nat) (Zs : n0 ≤ h0.size) (A_b : AF Z h0 b kb .byte 3 (fun i => .int (gb i))) :
    Con l Z (⟨"jdk/internal/util/ArraysSupport", "hashCode", "(I[BII)I"⟩ : MethodName) jdk_48_method_6_code 6 (some .int) ({ frames := 0, cells := 0, slots := 0, locals := 0 } : Room) #[(.int (1 : Int32)), (.ref b), (.int (0 : Int32)), (.int (3 : Int32))] h0 (Q5_3 Z b kb gb h0 n0) := by
  refine Con.intro (plainFor_of_name pn0) (fun m => ef_5_3 m b) ?_
  intro p e s m below meth c s₁ hx hby hml0 hZ hown hnm hret hlk X0 e0
  have hml : c.maxLocals = 6 := hml0
  have N0 := Fr.nil n0
  have Kp : Keep h0 h0 [] := Keep.refl h0 _
  show Go _ _ _ _ _ _ _ (s₁.setTop (mkF m 0 #[.val (.int (1 : Int32)), .val (.ref b), .val (.int (0 : Int32)), .val (.int (3 : Int32)), .unset, .unset] []))
  refine Go.of (fun _ q => XS.iloadN X0.here hx rfl (hb hby d5_0) rfl q) ?_
  show Go _ _ _ _ _ _ _ (s₁.setTop (mkF m 1 #[.val (.int (1 : Int32)), .val (.ref b), .val (.int (0 : Int32)), .val (.int (3 : Int32)), .unset, .unset] [(.int (0 : Int32))]))
  refine Go.of (fun _ q => XS.iloadN X0.here hx rfl (hb hby d5_1) rfl q) ?_
  show Go _ _ _ _ _ _ _ (s₁.setTop (mkF m 2 #[.val (.int (1 : Int32)), .val (.ref b), .val (.int (0 : Int32)), .val (.int (3 : Int32)), .unset, .unset] [(.int (3 : Int32)), (.int (0 : Int32))]))
  refine Go.of (fun _ q => XS.iadd X0.here hx rfl (hb hby d5_2) rfl q) ?_
  show Go _ _ _ _ _ _ _ (s₁.setTop (mkF m 3 #[.val (.int (1 : Int32)), .val (.ref b), .val (.int (0 : Int32)), .val (.int (3 : Int32)), .unset, .unset] [(.int (3 : Int32))]))
  refine Go.of (fun _ q => XS.istore X0.here hx rfl (hb hby d5_3) rfl (l' := #[.val (.int (1 : Int32)), .val (.ref b), .val (.int (0 : Int32)), .val (.int (3 : Int32)), .val (.int (3 : Int32)), .unset]) rfl q) ?_
  show Go _ _ _ _ _ _ _ (s₁.setTop (mkF m 5 #[.val (.int (1 : Int32)), .val (.ref b), .val (.int (0 : Int32)), .val (.int (3 : Int32)), .val (.int (3 : Int32)), .unset] []))
  refine Go.of (fun _ q => XS.iloadN X0.here hx rfl (hb hby d5_5) rfl q) ?_
  show Go _ _ _ _ _ _ _ (s₁.setTop (mkF m 6 #[.val (.int (1 : Int32)), .val (.ref b), .val (.int (0 : Int32)), .val (.int (3 : Int32)), .val (.int (3 : Int32)), .unset] [(.int (0 : Int32))]))
  refine Go.of (fun _ q => XS.istore X0.here hx rfl (hb hby d5_6) rfl (l' := #[.val (.int (1 : Int32)), .val (.ref b), .val (.int (0 : Int32)), .val (.int (3 : Int32)), .val (.int (3 : Int32)), .val (.int (0 : Int32))]) rfl q) ?_
  show Go _ _ _ _ _ _ _ (s₁.setTop (mkF m 8 #[.val (.int (1 : Int32)), .val (.ref b), .val (.int (0 : Int32)), .val (.int (3 : Int32)), .val (.int (3 : Int32)), .val (.int (0 : Int32))] []))
  refine Go.of (fun _ q => XS.iload X0.here hx rfl (hb hby d5_8) rfl q) ?_
  show Go _ _ _ _ _ _ _ (s₁.setTop (mkF m 10 #[.val (.int (1 : Int32)), .val (.ref b), .val (.int (0 : Int32)), .val (.int (3 : Int32)), .val (.int (3 : Int32)), .val (.int (0 : Int32))] [(.int (0 : Int32))]))
  refine Go.of (fun _ q => XS.iload X0.here hx rfl (hb hby d5_10) rfl q) ?_
  show Go _ _ _ _ _ _ _ (s₁.setTop (mkF m 12 #[.val (.int (1 : Int32)), .val (.ref b), .val (.int (0 : Int32)), .val (.int (3 : Int32)), .val (.int (3 : Int32)), .val (.int (0 : Int32))] [(.int (3 : Int32)), (.int (0 : Int32))]))
  refine Go.of (fun _ q => XS.icmpNo X0.here hx rfl (hb hby d5_12) rfl (tlt (by decide)).2.1 q) ?_
  show Go _ _ _ _ _ _ _ (s₁.setTop (mkF m 15 #[.val (.int (1 : Int32)), .val (.ref b), .val (.int (0 : Int32)), .val (.int (3 : Int32)), .val (.int (3 : Int32)), .val (.int (0 : Int32))] []))
  refine Go.of (fun _ q => XS.bipush X0.here hx rfl (hb hby d5_15) q) ?_
  show Go _ _ _ _ _ _ _ (s₁.setTop (mkF m 17 #[.val (.int (1 : Int32)), .val (.ref b), .val (.int (0 : Int32)), .val (.int (3 : Int32)), .val (.int (3 : Int32)), .val (.int (0 : Int32))] [(.int (31 : Int32))]))
  refine Go.of (fun _ q => XS.iloadN X0.here hx rfl (hb hby d5_17) rfl q) ?_
  show Go _ _ _ _ _ _ _ (s₁.setTop (mkF m 18 #[.val (.int (1 : Int32)), .val (.ref b), .val (.int (0 : Int32)), .val (.int (3 : Int32)), .val (.int (3 : Int32)), .val (.int (0 : Int32))] [(.int (1 : Int32)), (.int (31 : Int32))]))
  refine Go.of (fun _ q => XS.imul X0.here hx rfl (hb hby d5_18) rfl q) ?_
  show Go _ _ _ _ _ _ _ (s₁.setTop (mkF m 19 #[.val (.int (1 : Int32)), .val (.ref b), .val (.int (0 : Int32)), .val (.int (3 : Int32)), .val (.int (3 : Int32)), .val (.int (0 : Int32))] [(.int (31 : Int32))]))
  refine Go.of (fun _ q => XS.aloadN X0.here hx rfl (hb hby d5_19) rfl rfl q) ?_
  show Go _ _ _ _ _ _ _ (s₁.setTop (mkF m 20 #[.val (.int (1 : Int32)), .val (.ref b), .val (.int (0 : Int32)), .val (.int (3 : Int32)), .val (.int (3 : Int32)), .val (.int (0 : Int32))] [(.ref b), (.int (31 : Int32))]))
  refine Go.of (fun _ q => XS.iload X0.here hx rfl (hb hby d5_20) rfl q) ?_
  show Go _ _ _ _ _ _ _ (s₁.setTop (mkF m 22 #[.val (.int (1 : Int32)), .val (.ref b), .val (.int (0 : Int32)), .val (.int (3 : Int32)), .val (.int (3 : Int32)), .val (.int (0 : Int32))] [(.int (0 : Int32)), (.ref b), (.int (31 : Int32))]))
  refine Go.of (fun _ q => AF.baload A_b X0 hx hZ e0 ⟨rfl, by decide, by decide⟩ (v := (.int (gb 0))) rfl (g := (mkF m 22 #[.val (.int (1 : Int32)), .val (.ref b), .val (.int (0 : Int32)), .val (.int (3 : Int32)), .val (.int (3 : Int32)), .val (.int (0 : Int32))] [(.int (0 : Int32)), (.ref b), (.int (31 : Int32))])) rfl rfl (hb hby d5_22) q) ?_
  show Go _ _ _ _ _ _ _ (s₁.setTop (mkF m 23 #[.val (.int (1 : Int32)), .val (.ref b), .val (.int (0 : Int32)), .val (.int (3 : Int32)), .val (.int (3 : Int32)), .val (.int (0 : Int32))] [(.int (gb 0)), (.int (31 : Int32))]))
  refine Go.of (fun _ q => XS.iadd X0.here hx rfl (hb hby d5_23) rfl q) ?_
  show Go _ _ _ _ _ _ _ (s₁.setTop (mkF m 24 #[.val (.int (1 : Int32)), .val (.ref b), .val (.int (0 : Int32)), .val (.int (3 : Int32)), .val (.int (3 : Int32)), .val (.int (0 : Int32))] [(.int ((31 : Int32) + (gb 0)))]))
  refine Go.of (fun _ q => XS.istoreN X0.here hx rfl (hb hby d5_24) rfl (l' := #[.val (.int ((31 : Int32) + (gb 0))), .val (.ref b), .val (.int (0 : Int32)), .val (.int (3 : Int32)), .val (.int (3 : Int32)), .val (.int (0 : Int32))]) rfl q) ?_
  show Go _ _ _ _ _ _ _ (s₁.setTop (mkF m 25 #[.val (.int ((31 : Int32) + (gb 0))), .val (.ref b), .val (.int (0 : Int32)), .val (.int (3 : Int32)), .val (.int (3 : Int32)), .val (.int (0 : Int32))] []))
  refine Go.of (fun _ q => XS.iinc X0.here hx rfl (hb hby d5_25) rfl (l' := #[.val (.int ((31 : Int32) + (gb 0))), .val (.ref b), .val (.int (0 : Int32)), .val (.int (3 : Int32)), .val (.int (3 : Int32)), .val (.int (1 : Int32))]) rfl q) ?_
  show Go _ _ _ _ _ _ _ (s₁.setTop (mkF m 28 #[.val (.int ((31 : Int32) + (gb 0))), .val (.ref b), .val (.int (0 : Int32)), .val (.int (3 : Int32)), .val (.int (3 : Int32)), .val (.int (1 : Int32))] []))
  refine Go.of (fun _ q => XS.goto X0.here hx rfl (pc0 := 28) (pc' := 8) rfl (hb hby d5_28) (by decide) (by decide) q) ?_
  show Go _ _ _ _ _ _ _ (s₁.setTop (mkF m 8 #[.val (.int ((31 : Int32) + (gb 0))), .val (.ref b), .val (.int (0 : Int32)), .val (.int (3 : Int32)), .val (.int (3 : Int32)), .val (.int (1 : Int32))] []))
  refine Go.of (fun _ q => XS.iload X0.here hx rfl (hb hby d5_8) rfl q) ?_
  show Go _ _ _ _ _ _ _ (s₁.setTop (mkF m 10 #[.val (.int ((31 : Int32) + (gb 0))), .val (.ref b), .val (.int (0 : Int32)), .val (.int (3 : Int32)), .val (.int (3 : Int32)), .val (.int (1 : Int32))] [(.int (1 : Int32))]))
  refine Go.of (fun _ q => XS.iload X0.here hx rfl (hb hby d5_10) rfl q) ?_
  show Go _ _ _ _ _ _ _ (s₁.setTop (mkF m 12 #[.val (.int ((31 : Int32) + (gb 0))), .val (.ref b), .val (.int (0 : Int32)), .val (.int (3 : Int32)), .val (.int (3 : Int32)), .val (.int (1 : Int32))] [(.int (3 : Int32)), (.int (1 : Int32))]))
  refine Go.of (fun _ q => XS.icmpNo X0.here hx rfl (hb hby d5_12) rfl (tlt (by decide)).2.1 q) ?_
  show Go _ _ _ _ _ _ _ (s₁.setTop (mkF m 15 #[.val (.int ((31 : Int32) + (gb 0))), .val (.ref b), .val (.int (0 : Int32)), .val (.int (3 : Int32)), .val (.int (3 : Int32)), .val (.int (1 : Int32))] []))
  refine Go.of (fun _ q => XS.bipush X0.here hx rfl (hb hby d5_15) q) ?_
  show Go _ _ _ _ _ _ _ (s₁.setTop (mkF m 17 #[.val (.int ((31 : Int32) + (gb 0))), .val (.ref b), .val (.int (0 : Int32)), .val (.int (3 : Int32)), .val (.int (3 : Int32)), .val (.int (1 : Int32))] [(.int (31 : Int32))]))
  refine Go.of (fun _ q => XS.iloadN X0.here hx rfl (hb hby d5_17) rfl q) ?_
  show Go _ _ _ _ _ _ _ (s₁.setTop (mkF m 18 #[.val (.int ((31 : Int32) + (gb 0))), .val (.ref b), .val (.int (0 : Int32)), .val (.int (3 : Int32)), .val (.int (3 : Int32)), .val (.int (1 : Int32))] [(.int ((31 : Int32) + (gb 0))), (.int (31 : Int32))]))
  refine Go.of (fun _ q => XS.imul X0.here hx rfl (hb hby d5_18) rfl q) ?_
  show Go _ _ _ _ _ _ _ (s₁.setTop (mkF m 19 #[.val (.int ((31 : Int32) + (gb 0))), .val (.ref b), .val (.int (0 : Int32)), .val (.int (3 : Int32)), .val (.int (3 : Int32)), .val (.int (1 : Int32))] [(.int ((31 : Int32) * ((31 : Int32) + (gb 0))))]))
  refine Go.of (fun _ q => XS.aloadN X0.here hx rfl (hb hby d5_19) rfl rfl q) ?_
  show Go _ _ _ _ _ _ _ (s₁.setTop (mkF m 20 #[.val (.int ((31 : Int32) + (gb 0))), .val (.ref b), .val (.int (0 : Int32)), .val (.int (3 : Int32)), .val (.int (3 : Int32)), .val (.int (1 : Int32))] [(.ref b), (.int ((31 : Int32) * ((31 : Int32) + (gb 0))))]))
  refine Go.of (fun _ q => XS.iload X0.here hx rfl (hb hby d5_20) rfl q) ?_
  show Go _ _ _ _ _ _ _ (s₁.setTop (mkF m 22 #[.val (.int ((31 : Int32) + (gb 0))), .val (.ref b), .val (.int (0 : Int32)), .val (.int (3 : Int32)), .val (.int (3 : Int32)), .val (.int (1 : Int32))] [(.int (1 : Int32)), (.ref b), (.int ((31 : Int32) * ((31 : Int32) + (gb 0))))]))
  refine Go.of (fun _ q => AF.baload A_b X0 hx hZ e0 ⟨rfl, by decide, by decide⟩ (v := (.int (gb 1))) rfl (g := (mkF m 22 #[.val (.int ((31 : Int32) + (gb 0))), .val (.ref b), .val (.int (0 : Int32)), .val (.int (3 : Int32)), .val (.int (3 : Int32)), .val (.int (1 : Int32))] [(.int (1 : Int32)), (.ref b), (.int ((31 : Int32) * ((31 : Int32) + (gb 0))))])) rfl rfl (hb hby d5_22) q) ?_
  show Go _ _ _ _ _ _ _ (s₁.setTop (mkF m 23 #[.val (.int ((31 : Int32) + (gb 0))), .val (.ref b), .val (.int (0 : Int32)), .val (.int (3 : Int32)), .val (.int (3 : Int32)), .val (.int (1 : Int32))] [(.int (gb 1)), (.int ((31 : Int32) * ((31 : Int32) + (gb 0))))]))
  refine Go.of (fun _ q => XS.iadd X0.here hx rfl (hb hby d5_23) rfl q) ?_
  show Go _ _ _ _ _ _ _ (s₁.setTop (mkF m 24 #[.val (.int ((31 : Int32) + (gb 0))), .val (.ref b), .val (.int (0 : Int32)), .val (.int (3 : Int32)), .val (.int (3 : Int32)), .val (.int (1 : Int32))] [(.int (((31 : Int32) * ((31 : Int32) + (gb 0))) + (gb 1)))]))
  refine Go.of (fun _ q => XS.istoreN X0.here hx rfl (hb hby d5_24) rfl (l' := #[.val (.int (((31 : Int32) * ((31 : Int32) + (gb 0))) + (gb 1))), .val (.ref b), .val (.int (0 : Int32)), .val (.int (3 : Int32)), .val (.int (3 : Int32)), .val (.int (1 : Int32))]) rfl q) ?_
  show Go _ _ _ _ _ _ _ (s₁.setTop (mkF m 25 #[.val (.int (((31 : Int32) * ((31 : Int32) + (gb 0))) + (gb 1))), .val (.ref b), .val (.int (0 : Int32)), .val (.int (3 : Int32)), .val (.int (3 : Int32)), .val (.int (1 : Int32))] []))
  refine Go.of (fun _ q => XS.iinc X0.here hx rfl (hb hby d5_25) rfl (l' := #[.val (.int (((31 : Int32) * ((31 : Int32) + (gb 0))) + (gb 1))), .val (.ref b), .val (.int (0 : Int32)), .val (.int (3 : Int32)), .val (.int (3 : Int32)), .val (.int (2 : Int32))]) rfl q) ?_
  show Go _ _ _ _ _ _ _ (s₁.setTop (mkF m 28 #[.val (.int (((31 : Int32) * ((31 : Int32) + (gb 0))) + (gb 1))), .val (.ref b), .val (.int (0 : Int32)), .val (.int (3 : Int32)), .val (.int (3 : Int32)), .val (.int (2 : Int32))] []))
  refine Go.of (fun _ q => XS.goto X0.here hx rfl (pc0 := 28) (pc' := 8) rfl (hb hby d5_28) (by decide) (by decide) q) ?_
  show Go _ _ _ _ _ _ _ (s₁.setTop (mkF m 8 #[.val (.int (((31 : Int32) * ((31 : Int32) + (gb 0))) + (gb 1))), .val (.ref b), .val (.int (0 : Int32)), .val (.int (3 : Int32)), .val (.int (3 : Int32)), .val (.int (2 : Int32))] []))
  refine Go.of (fun _ q => XS.iload X0.here hx rfl (hb hby d5_8) rfl q) ?_
  show Go _ _ _ _ _ _ _ (s₁.setTop (mkF m 10 #[.val (.int (((31 : Int32) * ((31 : Int32) + (gb 0))) + (gb 1))), .val (.ref b), .val (.int (0 : Int32)), .val (.int (3 : Int32)), .val (.int (3 : Int32)), .val (.int (2 : Int32))] [(.int (2 : Int32))]))
  refine Go.of (fun _ q => XS.iload X0.here hx rfl (hb hby d5_10) rfl q) ?_
  show Go _ _ _ _ _ _ _ (s₁.setTop (mkF m 12 #[.val (.int (((31 : Int32) * ((31 : Int32) + (gb 0))) + (gb 1))), .val (.ref b), .val (.int (0 : Int32)), .val (.int (3 : Int32)), .val (.int (3 : Int32)), .val (.int (2 : Int32))] [(.int (3 : Int32)), (.int (2 : Int32))]))
  refine Go.of (fun _ q => XS.icmpNo X0.here hx rfl (hb hby d5_12) rfl (tlt (by decide)).2.1 q) ?_
  show Go _ _ _ _ _ _ _ (s₁.setTop (mkF m 15 #[.val (.int (((31 : Int32) * ((31 : Int32) + (gb 0))) + (gb 1))), .val (.ref b), .val (.int (0 : Int32)), .val (.int (3 : Int32)), .val (.int (3 : Int32)), .val (.int (2 : Int32))] []))
  refine Go.of (fun _ q => XS.bipush X0.here hx rfl (hb hby d5_15) q) ?_
  show Go _ _ _ _ _ _ _ (s₁.setTop (mkF m 17 #[.val (.int (((31 : Int32) * ((31 : Int32) + (gb 0))) + (gb 1))), .val (.ref b), .val (.int (0 : Int32)), .val (.int (3 : Int32)), .val (.int (3 : Int32)), .val (.int (2 : Int32))] [(.int (31 : Int32))]))
  refine Go.of (fun _ q => XS.iloadN X0.here hx rfl (hb hby d5_17) rfl q) ?_
  show Go _ _ _ _ _ _ _ (s₁.setTop (mkF m 18 #[.val (.int (((31 : Int32) * ((31 : Int32) + (gb 0))) + (gb 1))), .val (.ref b), .val (.int (0 : Int32)), .val (.int (3 : Int32)), .val (.int (3 : Int32)), .val (.int (2 : Int32))] [(.int (((31 : Int32) * ((31 : Int32) + (gb 0))) + (gb 1))), (.int (31 : Int32))]))
  refine Go.of (fun _ q => XS.imul X0.here hx rfl (hb hby d5_18) rfl q) ?_
  show Go _ _ _ _ _ _ _ (s₁.setTop (mkF m 19 #[.val (.int (((31 : Int32) * ((31 : Int32) + (gb 0))) + (gb 1))), .val (.ref b), .val (.int (0 : Int32)), .val (.int (3 : Int32)), .val (.int (3 : Int32)), .val (.int (2 : Int32))] [(.int ((31 : Int32) * (((31 : Int32) * ((31 : Int32) + (gb 0))) + (gb 1))))]))
  refine Go.of (fun _ q => XS.aloadN X0.here hx rfl (hb hby d5_19) rfl rfl q) ?_
  show Go _ _ _ _ _ _ _ (s₁.setTop (mkF m 20 #[.val (.int (((31 : Int32) * ((31 : Int32) + (gb 0))) + (gb 1))), .val (.ref b), .val (.int (0 : Int32)), .val (.int (3 : Int32)), .val (.int (3 : Int32)), .val (.int (2 : Int32))] [(.ref b), (.int ((31 : Int32) * (((31 : Int32) * ((31 : Int32) + (gb 0))) + (gb 1))))]))
  refine Go.of (fun _ q => XS.iload X0.here hx rfl (hb hby d5_20) rfl q) ?_
  show Go _ _ _ _ _ _ _ (s₁.setTop (mkF m 22 #[.val (.int (((31 : Int32) * ((31 : Int32) + (gb 0))) + (gb 1))), .val (.ref b), .val (.int (0 : Int32)), .val (.int (3 : Int32)), .val (.int (3 : Int32)), .val (.int (2 : Int32))] [(.int (2 : Int32)), (.ref b), (.int ((31 : Int32) * (((31 : Int32) * ((31 : Int32) + (gb 0))) + (gb 1))))]))
  refine Go.of (fun _ q => AF.baload A_b X0 hx hZ e0 ⟨rfl, by decide, by decide⟩ (v := (.int (gb 2))) rfl (g := (mkF m 22 #[.val (.int (((31 : Int32) * ((31 : Int32) + (gb 0))) + (gb 1))), .val (.ref b), .val (.int (0 : Int32)), .val (.int (3 : Int32)), .val (.int (3 : Int32)), .val (.int (2 : Int32))] [(.int (2 : Int32)), (.ref b), (.int ((31 : Int32) * (((31 : Int32) * ((31 : Int32) + (gb 0))) + (gb 1))))])) rfl rfl (hb hby d5_22) q) ?_
  show Go _ _ _ _ _ _ _ (s₁.setTop (mkF m 23 #[.val (.int (((31 : Int32) * ((31 : Int32) + (gb 0))) + (gb 1))), .val (.ref b), .val (.int (0 : Int32)), .val (.int (3 : Int32)), .val (.int (3 : Int32)), .val (.int (2 : Int32))] [(.int (gb 2)), (.int ((31 : Int32) * (((31 : Int32) * ((31 : Int32) + (gb 0))) + (gb 1))))]))
  refine Go.of (fun _ q => XS.iadd X0.here hx rfl (hb hby d5_23) rfl q) ?_
  show Go _ _ _ _ _ _ _ (s₁.setTop (mkF m 24 #[.val (.int (((31 : Int32) * ((31 : Int32) + (gb 0))) + (gb 1))), .val (.ref b), .val (.int (0 : Int32)), .val (.int (3 : Int32)), .val (.int (3 : Int32)), .val (.int (2 : Int32))] [(.int (((31 : Int32) * (((31 : Int32) * ((31 : Int32) + (gb 0))) + (gb 1))) + (gb 2)))]))
  refine Go.of (fun _ q => XS.istoreN X0.here hx rfl (hb hby d5_24) rfl (l' := #[.val (.int (((31 : Int32) * (((31 : Int32) * ((31 : Int32) + (gb 0))) + (gb 1))) + (gb 2))), .val (.ref b), .val (.int (0 : Int32)), .val (.int (3 : Int32)), .val (.int (3 : Int32)), .val (.int (2 : Int32))]) rfl q) ?_
  show Go _ _ _ _ _ _ _ (s₁.setTop (mkF m 25 #[.val (.int (((31 : Int32) * (((31 : Int32) * ((31 : Int32) + (gb 0))) + (gb 1))) + (gb 2))), .val (.ref b), .val (.int (0 : Int32)), .val (.int (3 : Int32)), .val (.int (3 : Int32)), .val (.int (2 : Int32))] []))
  refine Go.of (fun _ q => XS.iinc X0.here hx rfl (hb hby d5_25) rfl (l' := #[.val (.int (((31 : Int32) * (((31 : Int32) * ((31 : Int32) + (gb 0))) + (gb 1))) + (gb 2))), .val (.ref b), .val (.int (0 : Int32)), .val (.int (3 : Int32)), .val (.int (3 : Int32)), .val (.int (3 : Int32))]) rfl q) ?_
  show Go _ _ _ _ _ _ _ (s₁.setTop (mkF m 28 #[.val (.int (((31 : Int32) * (((31 : Int32) * ((31 : Int32) + (gb 0))) + (gb 1))) + (gb 2))), .val (.ref b), .val (.int (0 : Int32)), .val (.int (3 : Int32)), .val (.int (3 : Int32)), .val (.int (3 : Int32))] []))
  refine Go.of (fun _ q => XS.goto X0.here hx rfl (pc0 := 28) (pc' := 8) rfl (hb hby d5_28) (by decide) (by decide) q) ?_
  show Go _ _ _ _ _ _ _ (s₁.setTop (mkF m 8 #[.val (.int (((31 : Int32) * (((31 : Int32) * ((31 : Int32) + (gb 0))) + (gb 1))) + (gb 2))), .val (.ref b), .val (.int (0 : Int32)), .val (.int (3 : Int32)), .val (.int (3 : Int32)), .val (.int (3 : Int32))] []))
  refine Go.of (fun _ q => XS.iload X0.here hx rfl (hb hby d5_8) rfl q) ?_
  show Go _ _ _ _ _ _ _ (s₁.setTop (mkF m 10 #[.val (.int (((31 : Int32) * (((31 : Int32) * ((31 : Int32) + (gb 0))) + (gb 1))) + (gb 2))), .val (.ref b), .val (.int (0 : Int32)), .val (.int (3 : Int32)), .val (.int (3 : Int32)), .val (.int (3 : Int32))] [(.int (3 : Int32))]))
  refine Go.of (fun _ q => XS.iload X0.here hx rfl (hb hby d5_10) rfl q) ?_
  show Go _ _ _ _ _ _ _ (s₁.setTop (mkF m 12 #[.val (.int (((31 : Int32) * (((31 : Int32) * ((31 : Int32) + (gb 0))) + (gb 1))) + (gb 2))), .val (.ref b), .val (.int (0 : Int32)), .val (.int (3 : Int32)), .val (.int (3 : Int32)), .val (.int (3 : Int32))] [(.int (3 : Int32)), (.int (3 : Int32))]))
  refine Go.of (fun _ q => XS.icmpYes X0.here hx rfl (pc0 := 12) (pc' := 31) rfl (hb hby d5_12) rfl (flt (by decide)).2.1 (by decide) (by decide) q) ?_
  show Go _ _ _ _ _ _ _ (s₁.setTop (mkF m 31 #[.val (.int (((31 : Int32) * (((31 : Int32) * ((31 : Int32) + (gb 0))) + (gb 1))) + (gb 2))), .val (.ref b), .val (.int (0 : Int32)), .val (.int (3 : Int32)), .val (.int (3 : Int32)), .val (.int (3 : Int32))] []))
  refine Go.of (fun _ q => XS.iloadN X0.here hx rfl (hb hby d5_31) rfl q) ?_
  show Go _ _ _ _ _ _ _ (s₁.setTop (mkF m 32 #[.val (.int (((31 : Int32) * (((31 : Int32) * ((31 : Int32) + (gb 0))) + (gb 1))) + (gb 2))), .val (.ref b), .val (.int (0 : Int32)), .val (.int (3 : Int32)), .val (.int (3 : Int32)), .val (.int (3 : Int32))] [(.int (((31 : Int32) * (((31 : Int32) * ((31 : Int32) + (gb 0))) + (gb 1))) + (gb 2)))]))
  refine Go.retI X0 hx hlk hret (hb hby d5_32) (by decide) (by decide) ?_
  rw [e0]
  exact ⟨(((31 : Int32) * (((31 : Int32) * ((31 : Int32) + (gb 0))) + (gb 1))) + (gb 2)), rfl, N0, rfl⟩
theorem ef_4_3 (m : MethodId) (b : Addr) : entryFrame m #[(.ref b), (.int (0 : Int32)), (.int (3 : Int32)), (.int (1 : Int32)), (.int (8 : Int32))] 5 = mkF m 0 #[.val (.ref b), .val (.int (0 : Int32)), .val (.int (3 : Int32)), .val (.int (1 : Int32)), .val (.int (8 : Int32))] [] := by first | (simp [entryFrame, mkF, argsToLocals, Value.category]; done) | rfl
def Q4_3 (Z : State) (b : Addr) (kb : ClassId) (gb : Nat → Int32) (h0 : Heap) (n0 : Nat) (v : Option Value) (h : Heap) (L : List Loc) : Prop := ∃ z : Int32, v = some (.int z) ∧ Fr n0 L ∧ h = h0
set_option maxRecDepth 65536 in
set_option maxHeartbeats 40000000 in
theorem rm4_3 (l : Launch) (Z : State) (a0 : Array Value) (hw : ∀ d ∈ tables_1, d.before a0 Z = true) (b : Addr) (kb : ClassId) (gb : Nat → Int32) (h0 : Heap) (n0 : Nat) (Zs : n0 ≤ h0.size) (A_b : AF Z h0 b kb .byte 3 (fun i => .int (gb i))) (E_b : Exa Z h0 b "[B") :
    Con l Z (⟨"jdk/internal/util/ArraysSupport", "vectorizedHashCode", "(Ljava/lang/Object;IIII)I"⟩ : MethodName) jdk_48_method_4_code 5 (some .int) ({ frames := 1, cells := 0, slots := 0, locals := 17 } : Room) #[(.ref b), (.int (0 : Int32)), (.int (3 : Int32)), (.int (1 : Int32)), (.int (8 : Int32))] h0 (Q4_3 Z b kb gb h0 n0) := by
  refine Con.intro (plainFor_of_name pn0) (fun m => ef_4_3 m b) ?_
  intro p e s m below meth c s₁ hx hby hml0 hZ hown hnm hret hlk X0 e0
  have hml : c.maxLocals = 5 := hml0
  have N0 := Fr.nil n0
  have Kp : Keep h0 h0 [] := Keep.refl h0 _
  show Go _ _ _ _ _ _ _ (s₁.setTop (mkF m 0 #[.val (.ref b), .val (.int (0 : Int32)), .val (.int (3 : Int32)), .val (.int (1 : Int32)), .val (.int (8 : Int32))] []))
  refine Go.of (fun _ q => XS.iload X0.here hx rfl (hb hby d4_0) rfl q) ?_
  show Go _ _ _ _ _ _ _ (s₁.setTop (mkF m 2 #[.val (.ref b), .val (.int (0 : Int32)), .val (.int (3 : Int32)), .val (.int (1 : Int32)), .val (.int (8 : Int32))] [(.int (8 : Int32))]))
  refine Go.of (fun _ q => XS.tswIn X0.here hx rfl (pc0 := 2) (pc' := 90) rfl (hb hby d4_2) rfl (by decide) (o := 88) (by decide) (by decide) (by decide) q) ?_
  show Go _ _ _ _ _ _ _ (s₁.setTop (mkF m 90 #[.val (.ref b), .val (.int (0 : Int32)), .val (.int (3 : Int32)), .val (.int (1 : Int32)), .val (.int (8 : Int32))] []))
  refine Go.of (fun _ q => XS.iloadN X0.here hx rfl (hb hby d4_90) rfl q) ?_
  show Go _ _ _ _ _ _ _ (s₁.setTop (mkF m 91 #[.val (.ref b), .val (.int (0 : Int32)), .val (.int (3 : Int32)), .val (.int (1 : Int32)), .val (.int (8 : Int32))] [(.int (1 : Int32))]))
  refine Go.of (fun _ q => XS.aloadN X0.here hx rfl (hb hby d4_91) rfl rfl q) ?_
  show Go _ _ _ _ _ _ _ (s₁.setTop (mkF m 92 #[.val (.ref b), .val (.int (0 : Int32)), .val (.int (3 : Int32)), .val (.int (1 : Int32)), .val (.int (8 : Int32))] [(.ref b), (.int (1 : Int32))]))
  obtain ⟨T1, X1, e1, st1⟩ := castY X0 hx hZ hown (hw _ (List.mem_of_getElem? (i := 22) rfl)) e0 (Ins.of_exa E_b (hw _ (List.mem_of_getElem? (i := 23) rfl))) (g := (mkF m 92 #[.val (.ref b), .val (.int (0 : Int32)), .val (.int (3 : Int32)), .val (.int (1 : Int32)), .val (.int (8 : Int32))] [(.ref b), (.int (1 : Int32))])) rfl rfl (hb hby d4_92)
  refine Go.of st1 ?_
  show Go _ _ _ _ _ _ _ (T1.setTop (mkF m 95 #[.val (.ref b), .val (.int (0 : Int32)), .val (.int (3 : Int32)), .val (.int (1 : Int32)), .val (.int (8 : Int32))] [(.ref b), (.int (1 : Int32))]))
  refine Go.of (fun _ q => XS.iloadN X1.here hx rfl (hb hby d4_95) rfl q) ?_
  show Go _ _ _ _ _ _ _ (T1.setTop (mkF m 96 #[.val (.ref b), .val (.int (0 : Int32)), .val (.int (3 : Int32)), .val (.int (1 : Int32)), .val (.int (8 : Int32))] [(.int (0 : Int32)), (.ref b), (.int (1 : Int32))]))
  refine Go.of (fun _ q => XS.iloadN X1.here hx rfl (hb hby d4_96) rfl q) ?_
  show Go _ _ _ _ _ _ _ (T1.setTop (mkF m 97 #[.val (.ref b), .val (.int (0 : Int32)), .val (.int (3 : Int32)), .val (.int (1 : Int32)), .val (.int (8 : Int32))] [(.int (3 : Int32)), (.int (0 : Int32)), (.ref b), (.int (1 : Int32))]))
  refine Go.static X1 hx hZ (y := (⟨"jdk/internal/util/ArraysSupport", "hashCode", "(I[BII)I"⟩ : MethodName)) (argsL := [(.int (1 : Int32)), (.ref b), (.int (0 : Int32)), (.int (3 : Int32))]) hown (hw _ (List.mem_of_getElem? (i := 24) rfl)) (hw _ (List.mem_of_getElem? (i := 25) rfl)) (hw _ (List.mem_of_getElem? (i := 20) rfl)) (hw _ (List.mem_of_getElem? (i := 26) rfl)) (by decide) 0 e1 (rm5_3 l Z a0 hw b kb gb h0 n0 Zs A_b) (by decide) (by decide) (by decide) (by decide) (g := (mkF m 97 #[.val (.ref b), .val (.int (0 : Int32)), .val (.int (3 : Int32)), .val (.int (1 : Int32)), .val (.int (8 : Int32))] [(.int (3 : Int32)), (.int (0 : Int32)), (.ref b), (.int (1 : Int32))])) rfl (by rw [hml]; rfl) (rest := []) (lenOf pd0 rfl) rfl (by show 2 * 0 + _ ≤ _; exact Nat.le_of_eq rfl) (hb hby d4_97) ?_
  intro T2 v2 L2 X2 q2
  obtain ⟨z1, rfl, Nq2, e2⟩ := q2
  have N2 := Fr.app N0 Nq2
  show Go _ _ _ _ _ _ _ (T2.setTop (mkF m 100 #[.val (.ref b), .val (.int (0 : Int32)), .val (.int (3 : Int32)), .val (.int (1 : Int32)), .val (.int (8 : Int32))] [(.int z1)]))
  refine Go.of (fun _ q => XS.goto X2.here hx rfl (pc0 := 100) (pc' := 157) rfl (hb hby d4_100) (by decide) (by decide) q) ?_
  show Go _ _ _ _ _ _ _ (T2.setTop (mkF m 157 #[.val (.ref b), .val (.int (0 : Int32)), .val (.int (3 : Int32)), .val (.int (1 : Int32)), .val (.int (8 : Int32))] [(.int z1)]))
  refine Go.retI X2 hx hlk hret (hb hby d4_157) (by decide) (by decide) ?_
  rw [e2]
  exact ⟨z1, rfl, N2, rfl⟩
theorem d3_0 : decode jdk_65_method_153_code 0 = .ok (.aload_n 0, 1) := by decide +kernel
theorem d3_1 : decode jdk_65_method_153_code 1 = .ok (.ifnonnull 5, 3) := by decide +kernel
theorem d3_6 : decode jdk_65_method_153_code 6 = .ok (.aload_n 0, 1) := by decide +kernel
theorem d3_7 : decode jdk_65_method_153_code 7 = .ok (.arraylength, 1) := by decide +kernel
theorem d3_8 : decode jdk_65_method_153_code 8 = .ok (.lookupswitch 41 #[(0, 28), (1, 32)], 28) := by decide +kernel
theorem d3_36 : decode jdk_65_method_153_code 36 = .ok (.iconst 1, 1) := by decide +kernel
theorem d3_37 : decode jdk_65_method_153_code 37 = .ok (.goto 22, 3) := by decide +kernel
theorem d3_59 : decode jdk_65_method_153_code 59 = .ok (.ireturn, 1) := by decide +kernel
theorem pn1 : plainName "java/util/Arrays" = true := by first | (simp [plainName, overriddenIn]; done) | decide +kernel
theorem ef_3_0 (m : MethodId) (b : Addr) : entryFrame m #[(.ref b)] 1 = mkF m 0 #[.val (.ref b)] [] := by first | (simp [entryFrame, mkF, argsToLocals, Value.category]; done) | rfl
def Q3_0 (Z : State) (b : Addr) (kb : ClassId) (gb : Nat → Int32) (h0 : Heap) (n0 : Nat) (v : Option Value) (h : Heap) (L : List Loc) : Prop := ∃ z : Int32, v = some (.int z) ∧ Fr n0 L ∧ h = h0
set_option maxRecDepth 65536 in
set_option maxHeartbeats 40000000 in
theorem rm3_0 (l : Launch) (Z : State) (a0 : Array Value) (hw : ∀ d ∈ tables_1, d.before a0 Z = true) (b : Addr) (kb : ClassId) (gb : Nat → Int32) (h0 : Heap) (n0 : Nat) (Zs : n0 ≤ h0.size) (A_b : AF Z h0 b kb .byte 0 (fun i => .int (gb i))) (E_b : Exa Z h0 b "[B") :
    Con l Z (⟨"java/util/Arrays", "hashCode", "([B)I"⟩ : MethodName) jdk_65_method_153_code 1 (some .int) ({ frames := 0, cells := 0, slots := 0, locals := 0 } : Room) #[(.ref b)] h0 (Q3_0 Z b kb gb h0 n0) := by
  refine Con.intro (plainFor_of_name pn1) (fun m => ef_3_0 m b) ?_
  intro p e s m below meth c s₁ hx hby hml0 hZ hown hnm hret hlk X0 e0
  have hml : c.maxLocals = 1 := hml0
  have N0 := Fr.nil n0
  have Kp : Keep h0 h0 [] := Keep.refl h0 _
  show Go _ _ _ _ _ _ _ (s₁.setTop (mkF m 0 #[.val (.ref b)] []))
  refine Go.of (fun _ q => XS.aloadN X0.here hx rfl (hb hby d3_0) rfl rfl q) ?_
  show Go _ _ _ _ _ _ _ (s₁.setTop (mkF m 1 #[.val (.ref b)] [(.ref b)]))
  refine Go.of (fun _ q => XS.ifnonnullYes X0.here hx rfl (pc0 := 1) (pc' := 6) rfl (hb hby d3_1) rfl (by decide) (by decide) q) ?_
  show Go _ _ _ _ _ _ _ (s₁.setTop (mkF m 6 #[.val (.ref b)] []))
  refine Go.of (fun _ q => XS.aloadN X0.here hx rfl (hb hby d3_6) rfl rfl q) ?_
  show Go _ _ _ _ _ _ _ (s₁.setTop (mkF m 7 #[.val (.ref b)] [(.ref b)]))
  refine Go.of (fun _ q => AF.length A_b X0 hx hZ e0 rfl (g := (mkF m 7 #[.val (.ref b)] [(.ref b)])) rfl rfl (hb hby d3_7) q) ?_
  show Go _ _ _ _ _ _ _ (s₁.setTop (mkF m 8 #[.val (.ref b)] [(.int (0 : Int32))]))
  refine Go.of (fun _ q => X0.lookupswitchHit hx (g := (mkF m 8 #[.val (.ref b)] [(.int (0 : Int32))])) rfl rfl (hb hby d3_8) (by decide) (a := 0) (off := 28) (by decide) (show (0 : Int) ≤ ((8 : Nat) : Int) + 28 from by decide) _ q) ?_
  show Go _ _ _ _ _ _ _ (s₁.setTop (mkF m 36 #[.val (.ref b)] []))
  refine Go.of (fun _ q => XS.iconst X0.here hx rfl (hb hby d3_36) q) ?_
  show Go _ _ _ _ _ _ _ (s₁.setTop (mkF m 37 #[.val (.ref b)] [(.int (1 : Int32))]))
  refine Go.of (fun _ q => XS.goto X0.here hx rfl (pc0 := 37) (pc' := 59) rfl (hb hby d3_37) (by decide) (by decide) q) ?_
  show Go _ _ _ _ _ _ _ (s₁.setTop (mkF m 59 #[.val (.ref b)] [(.int (1 : Int32))]))
  refine Go.retI X0 hx hlk hret (hb hby d3_59) (by decide) (by decide) ?_
  rw [e0]
  exact ⟨(1 : Int32), rfl, N0, rfl⟩
theorem pd1 : parseMethodDescriptor "([B)I" = some ⟨[(.array .byte)], some .int⟩ := by decide +kernel
theorem d1_0 : decode prog_25_method_1_code 0 = .ok (.aload_n 0, 1) := by decide +kernel
theorem d1_1 : decode prog_25_method_1_code 1 = .ok (.invokespecial 1, 3) := by decide +kernel
theorem d1_4 : decode prog_25_method_1_code 4 = .ok (.aload_n 0, 1) := by decide +kernel
theorem d1_5 : decode prog_25_method_1_code 5 = .ok (.iload_n 1, 1) := by decide +kernel
theorem d1_6 : decode prog_25_method_1_code 6 = .ok (.putfield 7, 3) := by decide +kernel
theorem d1_9 : decode prog_25_method_1_code 9 = .ok (.aload_n 0, 1) := by decide +kernel
theorem d1_10 : decode prog_25_method_1_code 10 = .ok (.aload_n 2, 1) := by decide +kernel
theorem d1_11 : decode prog_25_method_1_code 11 = .ok (.putfield 13, 3) := by decide +kernel
theorem d1_14 : decode prog_25_method_1_code 14 = .ok (.aload_n 0, 1) := by decide +kernel
theorem d1_15 : decode prog_25_method_1_code 15 = .ok (.bipush 31, 2) := by decide +kernel
theorem d1_17 : decode prog_25_method_1_code 17 = .ok (.iload_n 1, 1) := by decide +kernel
theorem d1_18 : decode prog_25_method_1_code 18 = .ok (.imul, 1) := by decide +kernel
theorem d1_19 : decode prog_25_method_1_code 19 = .ok (.aload_n 2, 1) := by decide +kernel
theorem d1_20 : decode prog_25_method_1_code 20 = .ok (.invokestatic 17, 3) := by decide +kernel
theorem d1_23 : decode prog_25_method_1_code 23 = .ok (.iadd, 1) := by decide +kernel
theorem d1_24 : decode prog_25_method_1_code 24 = .ok (.putfield 23, 3) := by decide +kernel
theorem d1_27 : decode prog_25_method_1_code 27 = .ok (.return_, 1) := by decide +kernel
theorem pn2 : plainName "com/example/latchwork/latchwork/Key" = true := by first | (simp [plainName, overriddenIn]; done) | decide +kernel
theorem ef_1_0 (m : MethodId) (a : Addr) (x1 : Int32) (b : Addr) : entryFrame m #[(.ref a), (.int x1), (.ref b)] 3 = mkF m 0 #[.val (.ref a), .val (.int x1), .val (.ref b)] [] := by first | (simp [entryFrame, mkF, argsToLocals, Value.category]; done) | rfl
def Q1_0 (Z : State) (a : Addr) (x1 : Int32) (b : Addr) (kb : ClassId) (gb : Nat → Int32) (u1 : Int32) (u2 : Value) (u3 : Int32) (h0 : Heap) (n0 : Nat) (v : Option Value) (h : Heap) (L : List Loc) : Prop := v = none ∧ Fr n0 L ∧ Keep h0 h [a] ∧ Exa Z h a "com/example/latchwork/latchwork/Key" ∧ Fld Z h a "com/example/latchwork/latchwork/Key" "bytes" "[B" (.ref b)
set_option maxRecDepth 65536 in
set_option maxHeartbeats 40000000 in
theorem rm1_0 (l : Launch) (Z : State) (a0 : Array Value) (hw : ∀ d ∈ tables_1, d.before a0 Z = true) (a : Addr) (x1 : Int32) (b : Addr) (kb : ClassId) (gb : Nat → Int32) (u1 : Int32) (u2 : Value) (u3 : Int32) (h0 : Heap) (n0 : Nat) (Zs : n0 ≤ h0.size) (E_a : Exa Z h0 a "com/example/latchwork/latchwork/Key") (F_a_tree : Fld Z h0 a "com/example/latchwork/latchwork/Key" "tree" "I" (.int u1)) (F_a_bytes : Fld Z h0 a "com/example/latchwork/latchwork/Key" "bytes" "[B" u2) (F_a_hash : Fld Z h0 a "com/example/latchwork/latchwork/Key" "hash" "I" (.int u3)) (g_a : n0 ≤ a) (A_b : AF Z h0 b kb .byte 0 (fun i => .int (gb i))) (E_b : Exa Z h0 b "[B") (ne_b_a : b ≠ a) :
    Con l Z (⟨"com/example/latchwork/latchwork/Key", "<init>", "(I[B)V"⟩ : MethodName) prog_25_method_1_code 3 none ({ frames := 1, cells := 0, slots := 0, locals := 14 } : Room) #[(.ref a), (.int x1), (.ref b)] h0 (Q1_0 Z a x1 b kb gb u1 u2 u3 h0 n0) := by
  refine Con.intro (plainFor_of_name pn2) (fun m => ef_1_0 m a x1 b) ?_
  intro p e s m below meth c s₁ hx hby hml0 hZ hown hnm hret hlk X0 e0
  have hml : c.maxLocals = 3 := hml0
  have N0 := Fr.nil n0
  have Kp : Keep h0 h0 [a] := Keep.refl h0 _
  show Go _ _ _ _ _ _ _ (s₁.setTop (mkF m 0 #[.val (.ref a), .val (.int x1), .val (.ref b)] []))
  refine Go.of (fun _ q => XS.aloadN X0.here hx rfl (hb hby d1_0) rfl rfl q) ?_
  show Go _ _ _ _ _ _ _ (s₁.setTop (mkF m 1 #[.val (.ref a), .val (.int x1), .val (.ref b)] [(.ref a)]))
  obtain ⟨T1, X1, e1, st1⟩ := initO X0 hx hZ hown (hw _ (List.mem_of_getElem? (i := 7) rfl)) (hw _ (List.mem_of_getElem? (i := 8) rfl)) (hw _ (List.mem_of_getElem? (i := 9) rfl)) e0 (g := (mkF m 1 #[.val (.ref a), .val (.int x1), .val (.ref b)] [(.ref a)])) rfl (by rw [hml]; rfl) rfl (hb hby d1_1) (by decide) (W := 0) (by show 2 * 0 + _ ≤ _; exact Nat.le_of_eq rfl) (by decide)
  refine Go.of st1 ?_
  show Go _ _ _ _ _ _ _ (T1.setTop (mkF m 4 #[.val (.ref a), .val (.int x1), .val (.ref b)] []))
  refine Go.of (fun _ q => XS.aloadN X1.here hx rfl (hb hby d1_4) rfl rfl q) ?_
  show Go _ _ _ _ _ _ _ (T1.setTop (mkF m 5 #[.val (.ref a), .val (.int x1), .val (.ref b)] [(.ref a)]))
  refine Go.of (fun _ q => XS.iloadN X1.here hx rfl (hb hby d1_5) rfl q) ?_
  show Go _ _ _ _ _ _ _ (T1.setTop (mkF m 6 #[.val (.ref a), .val (.int x1), .val (.ref b)] [(.int x1), (.ref a)]))
  obtain ⟨T2, h2, X2, e2, W2, st2⟩ := putF X1 hx hZ hown (host := "") (Or.inl (hw _ (List.mem_of_getElem? (i := 10) rfl))) Via.refl e1 F_a_tree E_a (Or.inr ⟨(hw _ (List.mem_of_getElem? (i := 11) rfl)), rfl, hnm⟩) (hw _ (List.mem_of_getElem? (i := 2) rfl)) (ty := .int) (by decide) rfl rfl (g := (mkF m 6 #[.val (.ref a), .val (.int x1), .val (.ref b)] [(.int x1), (.ref a)])) rfl rfl (hb hby d1_6)
  refine Go.of st2 ?_
  have Zs := Nat.le_trans Zs (Nat.le_of_eq W2.size.symm)
  have Kp := Kp.wr W2 (Or.inl (List.mem_of_getElem? (i := 0) rfl))
  have E_a := E_a.wr W2
  have F_a_tree := F_a_tree.same W2
  have F_a_bytes := F_a_bytes.other W2 (Or.inr (slot_ne (Or.inr (hw _ (List.mem_of_getElem? (i := 13) rfl))) (Or.inr (hw _ (List.mem_of_getElem? (i := 11) rfl))) (by decide) (t := (.array .byte)) (t' := .int) (by decide) (by decide)))
  have F_a_hash := F_a_hash.other W2 (Or.inr (slot_ne (Or.inr (hw _ (List.mem_of_getElem? (i := 28) rfl))) (Or.inr (hw _ (List.mem_of_getElem? (i := 11) rfl))) (by decide) (t := .int) (t' := .int) (by decide) (by decide)))
  have A_b := A_b.other W2 ne_b_a
  have E_b := E_b.wr W2
  have N2 := Fr.snoc X2 N0 g_a
  show Go _ _ _ _ _ _ _ (T2.setTop (mkF m 9 #[.val (.ref a), .val (.int x1), .val (.ref b)] []))
  refine Go.of (fun _ q => XS.aloadN X2.here hx rfl (hb hby d1_9) rfl rfl q) ?_
  show Go _ _ _ _ _ _ _ (T2.setTop (mkF m 10 #[.val (.ref a), .val (.int x1), .val (.ref b)] [(.ref a)]))
  refine Go.of (fun _ q => XS.aloadN X2.here hx rfl (hb hby d1_10) rfl rfl q) ?_
  show Go _ _ _ _ _ _ _ (T2.setTop (mkF m 11 #[.val (.ref a), .val (.int x1), .val (.ref b)] [(.ref b), (.ref a)]))
  obtain ⟨T3, h3, X3, e3, W3, st3⟩ := putF X2 hx hZ hown (host := "") (Or.inl (hw _ (List.mem_of_getElem? (i := 12) rfl))) Via.refl e2 F_a_bytes E_a (Or.inr ⟨(hw _ (List.mem_of_getElem? (i := 13) rfl)), rfl, hnm⟩) (hw _ (List.mem_of_getElem? (i := 2) rfl)) (ty := (.array .byte)) (by decide) rfl rfl (g := (mkF m 11 #[.val (.ref a), .val (.int x1), .val (.ref b)] [(.ref b), (.ref a)])) rfl rfl (hb hby d1_11)
  refine Go.of st3 ?_
  have Zs := Nat.le_trans Zs (Nat.le_of_eq W3.size.symm)
  have Kp := Kp.wr W3 (Or.inl (List.mem_of_getElem? (i := 0) rfl))
  have E_a := E_a.wr W3
  have F_a_tree := F_a_tree.other W3 (Or.inr (slot_ne (Or.inr (hw _ (List.mem_of_getElem? (i := 11) rfl))) (Or.inr (hw _ (List.mem_of_getElem? (i := 13) rfl))) (by decide) (t := .int) (t' := (.array .byte)) (by decide) (by decide)))
  have F_a_bytes := F_a_bytes.same W3
  have F_a_hash := F_a_hash.other W3 (Or.inr (slot_ne (Or.inr (hw _ (List.mem_of_getElem? (i := 28) rfl))) (Or.inr (hw _ (List.mem_of_getElem? (i := 13) rfl))) (by decide) (t := .int) (t' := (.array .byte)) (by decide) (by decide)))
  have A_b := A_b.other W3 ne_b_a
  have E_b := E_b.wr W3
  have N3 := Fr.snoc X3 N2 g_a
  show Go _ _ _ _ _ _ _ (T3.setTop (mkF m 14 #[.val (.ref a), .val (.int x1), .val (.ref b)] []))
  refine Go.of (fun _ q => XS.aloadN X3.here hx rfl (hb hby d1_14) rfl rfl q) ?_
  show Go _ _ _ _ _ _ _ (T3.setTop (mkF m 15 #[.val (.ref a), .val (.int x1), .val (.ref b)] [(.ref a)]))
  refine Go.of (fun _ q => XS.bipush X3.here hx rfl (hb hby d1_15) q) ?_
  show Go _ _ _ _ _ _ _ (T3.setTop (mkF m 17 #[.val (.ref a), .val (.int x1), .val (.ref b)] [(.int (31 : Int32)), (.ref a)]))
  refine Go.of (fun _ q => XS.iloadN X3.here hx rfl (hb hby d1_17) rfl q) ?_
  show Go _ _ _ _ _ _ _ (T3.setTop (mkF m 18 #[.val (.ref a), .val (.int x1), .val (.ref b)] [(.int x1), (.int (31 : Int32)), (.ref a)]))
  refine Go.of (fun _ q => XS.imul X3.here hx rfl (hb hby d1_18) rfl q) ?_
  show Go _ _ _ _ _ _ _ (T3.setTop (mkF m 19 #[.val (.ref a), .val (.int x1), .val (.ref b)] [(.int ((31 : Int32) * x1)), (.ref a)]))
  refine Go.of (fun _ q => XS.aloadN X3.here hx rfl (hb hby d1_19) rfl rfl q) ?_
  show Go _ _ _ _ _ _ _ (T3.setTop (mkF m 20 #[.val (.ref a), .val (.int x1), .val (.ref b)] [(.ref b), (.int ((31 : Int32) * x1)), (.ref a)]))
  refine Go.static X3 hx hZ (y := (⟨"java/util/Arrays", "hashCode", "([B)I"⟩ : MethodName)) (argsL := [(.ref b)]) hown (hw _ (List.mem_of_getElem? (i := 14) rfl)) (hw _ (List.mem_of_getElem? (i := 15) rfl)) (hw _ (List.mem_of_getElem? (i := 16) rfl)) (hw _ (List.mem_of_getElem? (i := 17) rfl)) (by decide) 2 e3 (rm3_0 l Z a0 hw b kb gb h3 n0 Zs A_b E_b) (by decide) (by decide) (by decide) (by decide) (g := (mkF m 20 #[.val (.ref a), .val (.int x1), .val (.ref b)] [(.ref b), (.int ((31 : Int32) * x1)), (.ref a)])) rfl (by rw [hml]; rfl) (rest := [(.int ((31 : Int32) * x1)), (.ref a)]) (lenOf pd1 rfl) rfl (by show 2 * 0 + _ ≤ _; exact Nat.le_of_eq rfl) (hb hby d1_20) ?_
  intro T4 v4 L4 X4 q4
  obtain ⟨z1, rfl, Nq4, e4⟩ := q4
  have N4 := Fr.app N3 Nq4
  show Go _ _ _ _ _ _ _ (T4.setTop (mkF m 23 #[.val (.ref a), .val (.int x1), .val (.ref b)] [(.int z1), (.int ((31 : Int32) * x1)), (.ref a)]))
  refine Go.of (fun _ q => XS.iadd X4.here hx rfl (hb hby d1_23) rfl q) ?_
  show Go _ _ _ _ _ _ _ (T4.setTop (mkF m 24 #[.val (.ref a), .val (.int x1), .val (.ref b)] [(.int (((31 : Int32) * x1) + z1)), (.ref a)]))
  obtain ⟨T5, h5, X5, e5, W5, st5⟩ := putF X4 hx hZ hown (host := "") (Or.inl (hw _ (List.mem_of_getElem? (i := 27) rfl))) Via.refl e4 F_a_hash E_a (Or.inr ⟨(hw _ (List.mem_of_getElem? (i := 28) rfl)), rfl, hnm⟩) (hw _ (List.mem_of_getElem? (i := 2) rfl)) (ty := .int) (by decide) rfl rfl (g := (mkF m 24 #[.val (.ref a), .val (.int x1), .val (.ref b)] [(.int (((31 : Int32) * x1) + z1)), (.ref a)])) rfl rfl (hb hby d1_24)
  refine Go.of st5 ?_
  have Zs := Nat.le_trans Zs (Nat.le_of_eq W5.size.symm)
  have Kp := Kp.wr W5 (Or.inl (List.mem_of_getElem? (i := 0) rfl))
  have E_a := E_a.wr W5
  have F_a_tree := F_a_tree.other W5 (Or.inr (slot_ne (Or.inr (hw _ (List.mem_of_getElem? (i := 11) rfl))) (Or.inr (hw _ (List.mem_of_getElem? (i := 28) rfl))) (by decide) (t := .int) (t' := .int) (by decide) (by decide)))
  have F_a_bytes := F_a_bytes.other W5 (Or.inr (slot_ne (Or.inr (hw _ (List.mem_of_getElem? (i := 13) rfl))) (Or.inr (hw _ (List.mem_of_getElem? (i := 28) rfl))) (by decide) (t := (.array .byte)) (t' := .int) (by decide) (by decide)))
  have F_a_hash := F_a_hash.same W5
  have A_b := A_b.other W5 ne_b_a
  have E_b := E_b.wr W5
  have N5 := Fr.snoc X5 N4 g_a
  show Go _ _ _ _ _ _ _ (T5.setTop (mkF m 27 #[.val (.ref a), .val (.int x1), .val (.ref b)] []))
  refine Go.retV X5 hx hlk hret (hb hby d1_27) (by decide) (by decide) ?_
  rw [e5]
  exact ⟨rfl, N5, Kp, E_a, F_a_bytes⟩
theorem d6_0 : decode prog_25_method_5_code 0 = .ok (.aload_n 0, 1) := by decide +kernel
theorem d6_1 : decode prog_25_method_5_code 1 = .ok (.getfield 13, 3) := by decide +kernel
theorem d6_4 : decode prog_25_method_5_code 4 = .ok (.arraylength, 1) := by decide +kernel
theorem d6_5 : decode prog_25_method_5_code 5 = .ok (.ifCond .ne 7, 3) := by decide +kernel
theorem d6_8 : decode prog_25_method_5_code 8 = .ok (.iconst 1, 1) := by decide +kernel
theorem d6_9 : decode prog_25_method_5_code 9 = .ok (.goto 4, 3) := by decide +kernel
theorem d6_13 : decode prog_25_method_5_code 13 = .ok (.ireturn, 1) := by decide +kernel
theorem ef_6_0 (m : MethodId) (a : Addr) : entryFrame m #[(.ref a)] 1 = mkF m 0 #[.val (.ref a)] [] := by first | (simp [entryFrame, mkF, argsToLocals, Value.category]; done) | rfl
def Q6_0 (Z : State) (a : Addr) (b : Addr) (kb : ClassId) (gb : Nat → Int32) (h0 : Heap) (n0 : Nat) (v : Option Value) (h : Heap) (L : List Loc) : Prop := v = some (.int (1 : Int32)) ∧ Fr n0 L ∧ h = h0
set_option maxRecDepth 65536 in
set_option maxHeartbeats 40000000 in
theorem rm6_0 (l : Launch) (Z : State) (a0 : Array Value) (hw : ∀ d ∈ tables_1, d.before a0 Z = true) (a : Addr) (b : Addr) (kb : ClassId) (gb : Nat → Int32) (h0 : Heap) (n0 : Nat) (Zs : n0 ≤ h0.size) (F_a_bytes : Fld Z h0 a "com/example/latchwork/latchwork/Key" "bytes" "[B" (.ref b)) (A_b : AF Z h0 b kb .byte 0 (fun i => .int (gb i))) :
    Con l Z (⟨"com/example/latchwork/latchwork/Key", "isEnd", "()Z"⟩ : MethodName) prog_25_method_5_code 1 (some .boolean) ({ frames := 0, cells := 0, slots := 0, locals := 0 } : Room) #[(.ref a)] h0 (Q6_0 Z a b kb gb h0 n0) := by
  refine Con.intro (plainFor_of_name pn2) (fun m => ef_6_0 m a) ?_
  intro p e s m below meth c s₁ hx hby hml0 hZ hown hnm hret hlk X0 e0
  have hml : c.maxLocals = 1 := hml0
  have N0 := Fr.nil n0
  have Kp : Keep h0 h0 [] := Keep.refl h0 _
  show Go _ _ _ _ _ _ _ (s₁.setTop (mkF m 0 #[.val (.ref a)] []))
  refine Go.of (fun _ q => XS.aloadN X0.here hx rfl (hb hby d6_0) rfl rfl q) ?_
  show Go _ _ _ _ _ _ _ (s₁.setTop (mkF m 1 #[.val (.ref a)] [(.ref a)]))
  obtain ⟨T1, X1, e1, st1⟩ := getF X0 hx hZ hown (host := "") (Or.inl (hw _ (List.mem_of_getElem? (i := 12) rfl))) Via.refl e0 F_a_bytes (g := (mkF m 1 #[.val (.ref a)] [(.ref a)])) rfl rfl (hb hby d6_1)
  refine Go.of st1 ?_
  show Go _ _ _ _ _ _ _ (T1.setTop (mkF m 4 #[.val (.ref a)] [(.ref b)]))
  refine Go.of (fun _ q => AF.length A_b X1 hx hZ e1 rfl (g := (mkF m 4 #[.val (.ref a)] [(.ref b)])) rfl rfl (hb hby d6_4) q) ?_
  show Go _ _ _ _ _ _ _ (T1.setTop (mkF m 5 #[.val (.ref a)] [(.int (0 : Int32))]))
  refine Go.of (fun _ q => XS.ifNo X1.here hx rfl (hb hby d6_5) rfl ((if0 _ _).trans (teq rfl).2) q) ?_
  show Go _ _ _ _ _ _ _ (T1.setTop (mkF m 8 #[.val (.ref a)] []))
  refine Go.of (fun _ q => XS.iconst X1.here hx rfl (hb hby d6_8) q) ?_
  show Go _ _ _ _ _ _ _ (T1.setTop (mkF m 9 #[.val (.ref a)] [(.int (1 : Int32))]))
  refine Go.of (fun _ q => XS.goto X1.here hx rfl (pc0 := 9) (pc' := 13) rfl (hb hby d6_9) (by decide) (by decide) q) ?_
  show Go _ _ _ _ _ _ _ (T1.setTop (mkF m 13 #[.val (.ref a)] [(.int (1 : Int32))]))
  refine Go.retN X1 hx hlk (t := .boolean) hret (by simp) (hb hby d6_13) rfl (by decide) (by decide) ?_
  rw [e1]
  exact ⟨rfl, N0, rfl⟩
theorem d3_40 : decode jdk_65_method_153_code 40 = .ok (.bipush 31, 2) := by decide +kernel
theorem d3_42 : decode jdk_65_method_153_code 42 = .ok (.aload_n 0, 1) := by decide +kernel
theorem d3_43 : decode jdk_65_method_153_code 43 = .ok (.iconst 0, 1) := by decide +kernel
theorem d3_44 : decode jdk_65_method_153_code 44 = .ok (.baload, 1) := by decide +kernel
theorem d3_45 : decode jdk_65_method_153_code 45 = .ok (.iadd, 1) := by decide +kernel
theorem d3_46 : decode jdk_65_method_153_code 46 = .ok (.goto 13, 3) := by decide +kernel
theorem ef_3_1 (m : MethodId) (b : Addr) : entryFrame m #[(.ref b)] 1 = mkF m 0 #[.val (.ref b)] [] := by first | (simp [entryFrame, mkF, argsToLocals, Value.category]; done) | rfl
def Q3_1 (Z : State) (b : Addr) (kb : ClassId) (gb : Nat → Int32) (h0 : Heap) (n0 : Nat) (v : Option Value) (h : Heap) (L : List Loc) : Prop := ∃ z : Int32, v = some (.int z) ∧ Fr n0 L ∧ h = h0
set_option maxRecDepth 65536 in
set_option maxHeartbeats 40000000 in
theorem rm3_1 (l : Launch) (Z : State) (a0 : Array Value) (hw : ∀ d ∈ tables_1, d.before a0 Z = true) (b : Addr) (kb : ClassId) (gb : Nat → Int32) (h0 : Heap) (n0 : Nat) (Zs : n0 ≤ h0.size) (A_b : AF Z h0 b kb .byte 1 (fun i => .int (gb i))) (E_b : Exa Z h0 b "[B") :
    Con l Z (⟨"java/util/Arrays", "hashCode", "([B)I"⟩ : MethodName) jdk_65_method_153_code 1 (some .int) ({ frames := 0, cells := 0, slots := 0, locals := 0 } : Room) #[(.ref b)] h0 (Q3_1 Z b kb gb h0 n0) := by
  refine Con.intro (plainFor_of_name pn1) (fun m => ef_3_1 m b) ?_
  intro p e s m below meth c s₁ hx hby hml0 hZ hown hnm hret hlk X0 e0
  have hml : c.maxLocals = 1 := hml0
  have N0 := Fr.nil n0
  have Kp : Keep h0 h0 [] := Keep.refl h0 _
  show Go _ _ _ _ _ _ _ (s₁.setTop (mkF m 0 #[.val (.ref b)] []))
  refine Go.of (fun _ q => XS.aloadN X0.here hx rfl (hb hby d3_0) rfl rfl q) ?_
  show Go _ _ _ _ _ _ _ (s₁.setTop (mkF m 1 #[.val (.ref b)] [(.ref b)]))
  refine Go.of (fun _ q => XS.ifnonnullYes X0.here hx rfl (pc0 := 1) (pc' := 6) rfl (hb hby d3_1) rfl (by decide) (by decide) q) ?_
  show Go _ _ _ _ _ _ _ (s₁.setTop (mkF m 6 #[.val (.ref b)] []))
  refine Go.of (fun _ q => XS.aloadN X0.here hx rfl (hb hby d3_6) rfl rfl q) ?_
  show Go _ _ _ _ _ _ _ (s₁.setTop (mkF m 7 #[.val (.ref b)] [(.ref b)]))
  refine Go.of (fun _ q => AF.length A_b X0 hx hZ e0 rfl (g := (mkF m 7 #[.val (.ref b)] [(.ref b)])) rfl rfl (hb hby d3_7) q) ?_
  show Go _ _ _ _ _ _ _ (s₁.setTop (mkF m 8 #[.val (.ref b)] [(.int (1 : Int32))]))
  refine Go.of (fun _ q => X0.lookupswitchHit hx (g := (mkF m 8 #[.val (.ref b)] [(.int (1 : Int32))])) rfl rfl (hb hby d3_8) (by decide) (a := 1) (off := 32) (by decide) (show (0 : Int) ≤ ((8 : Nat) : Int) + 32 from by decide) _ q) ?_
  show Go _ _ _ _ _ _ _ (s₁.setTop (mkF m 40 #[.val (.ref b)] []))
  refine Go.of (fun _ q => XS.bipush X0.here hx rfl (hb hby d3_40) q) ?_
  show Go _ _ _ _ _ _ _ (s₁.setTop (mkF m 42 #[.val (.ref b)] [(.int (31 : Int32))]))
  refine Go.of (fun _ q => XS.aloadN X0.here hx rfl (hb hby d3_42) rfl rfl q) ?_
  show Go _ _ _ _ _ _ _ (s₁.setTop (mkF m 43 #[.val (.ref b)] [(.ref b), (.int (31 : Int32))]))
  refine Go.of (fun _ q => XS.iconst X0.here hx rfl (hb hby d3_43) q) ?_
  show Go _ _ _ _ _ _ _ (s₁.setTop (mkF m 44 #[.val (.ref b)] [(.int (0 : Int32)), (.ref b), (.int (31 : Int32))]))
  refine Go.of (fun _ q => AF.baload A_b X0 hx hZ e0 ⟨rfl, by decide, by decide⟩ (v := (.int (gb 0))) rfl (g := (mkF m 44 #[.val (.ref b)] [(.int (0 : Int32)), (.ref b), (.int (31 : Int32))])) rfl rfl (hb hby d3_44) q) ?_
  show Go _ _ _ _ _ _ _ (s₁.setTop (mkF m 45 #[.val (.ref b)] [(.int (gb 0)), (.int (31 : Int32))]))
  refine Go.of (fun _ q => XS.iadd X0.here hx rfl (hb hby d3_45) rfl q) ?_
  show Go _ _ _ _ _ _ _ (s₁.setTop (mkF m 46 #[.val (.ref b)] [(.int ((31 : Int32) + (gb 0)))]))
  refine Go.of (fun _ q => XS.goto X0.here hx rfl (pc0 := 46) (pc' := 59) rfl (hb hby d3_46) (by decide) (by decide) q) ?_
  show Go _ _ _ _ _ _ _ (s₁.setTop (mkF m 59 #[.val (.ref b)] [(.int ((31 : Int32) + (gb 0)))]))
  refine Go.retI X0 hx hlk hret (hb hby d3_59) (by decide) (by decide) ?_
  rw [e0]
  exact ⟨((31 : Int32) + (gb 0)), rfl, N0, rfl⟩
theorem ef_1_1 (m : MethodId) (a : Addr) (x1 : Int32) (b : Addr) : entryFrame m #[(.ref a), (.int x1), (.ref b)] 3 = mkF m 0 #[.val (.ref a), .val (.int x1), .val (.ref b)] [] := by first | (simp [entryFrame, mkF, argsToLocals, Value.category]; done) | rfl
def Q1_1 (Z : State) (a : Addr) (x1 : Int32) (b : Addr) (kb : ClassId) (gb : Nat → Int32) (u1 : Int32) (u2 : Value) (u3 : Int32) (h0 : Heap) (n0 : Nat) (v : Option Value) (h : Heap) (L : List Loc) : Prop := v = none ∧ Fr n0 L ∧ Keep h0 h [a] ∧ Exa Z h a "com/example/latchwork/latchwork/Key" ∧ Fld Z h a "com/example/latchwork/latchwork/Key" "bytes" "[B" (.ref b)
set_option maxRecDepth 65536 in
set_option maxHeartbeats 40000000 in
theorem rm1_1 (l : Launch) (Z : State) (a0 : Array Value) (hw : ∀ d ∈ tables_1, d.before a0 Z = true) (a : Addr) (x1 : Int32) (b : Addr) (kb : ClassId) (gb : Nat → Int32) (u1 : Int32) (u2 : Value) (u3 : Int32) (h0 : Heap) (n0 : Nat) (Zs : n0 ≤ h0.size) (E_a : Exa Z h0 a "com/example/latchwork/latchwork/Key") (F_a_tree : Fld Z h0 a "com/example/latchwork/latchwork/Key" "tree" "I" (.int u1)) (F_a_bytes : Fld Z h0 a "com/example/latchwork/latchwork/Key" "bytes" "[B" u2) (F_a_hash : Fld Z h0 a "com/example/latchwork/latchwork/Key" "hash" "I" (.int u3)) (g_a : n0 ≤ a) (A_b : AF Z h0 b kb .byte 1 (fun i => .int (gb i))) (E_b : Exa Z h0 b "[B") (ne_b_a : b ≠ a) :
    Con l Z (⟨"com/example/latchwork/latchwork/Key", "<init>", "(I[B)V"⟩ : MethodName) prog_25_method_1_code 3 none ({ frames := 1, cells := 0, slots := 0, locals := 14 } : Room) #[(.ref a), (.int x1), (.ref b)] h0 (Q1_1 Z a x1 b kb gb u1 u2 u3 h0 n0) := by
  refine Con.intro (plainFor_of_name pn2) (fun m => ef_1_1 m a x1 b) ?_
  intro p e s m below meth c s₁ hx hby hml0 hZ hown hnm hret hlk X0 e0
  have hml : c.maxLocals = 3 := hml0
  have N0 := Fr.nil n0
  have Kp : Keep h0 h0 [a] := Keep.refl h0 _
  show Go _ _ _ _ _ _ _ (s₁.setTop (mkF m 0 #[.val (.ref a), .val (.int x1), .val (.ref b)] []))
  refine Go.of (fun _ q => XS.aloadN X0.here hx rfl (hb hby d1_0) rfl rfl q) ?_
  show Go _ _ _ _ _ _ _ (s₁.setTop (mkF m 1 #[.val (.ref a), .val (.int x1), .val (.ref b)] [(.ref a)]))
  obtain ⟨T1, X1, e1, st1⟩ := initO X0 hx hZ hown (hw _ (List.mem_of_getElem? (i := 7) rfl)) (hw _ (List.mem_of_getElem? (i := 8) rfl)) (hw _ (List.mem_of_getElem? (i := 9) rfl)) e0 (g := (mkF m 1 #[.val (.ref a), .val (.int x1), .val (.ref b)] [(.ref a)])) rfl (by rw [hml]; rfl) rfl (hb hby d1_1) (by decide) (W := 0) (by show 2 * 0 + _ ≤ _; exact Nat.le_of_eq rfl) (by decide)
  refine Go.of st1 ?_
  show Go _ _ _ _ _ _ _ (T1.setTop (mkF m 4 #[.val (.ref a), .val (.int x1), .val (.ref b)] []))
  refine Go.of (fun _ q => XS.aloadN X1.here hx rfl (hb hby d1_4) rfl rfl q) ?_
  show Go _ _ _ _ _ _ _ (T1.setTop (mkF m 5 #[.val (.ref a), .val (.int x1), .val (.ref b)] [(.ref a)]))
  refine Go.of (fun _ q => XS.iloadN X1.here hx rfl (hb hby d1_5) rfl q) ?_
  show Go _ _ _ _ _ _ _ (T1.setTop (mkF m 6 #[.val (.ref a), .val (.int x1), .val (.ref b)] [(.int x1), (.ref a)]))
  obtain ⟨T2, h2, X2, e2, W2, st2⟩ := putF X1 hx hZ hown (host := "") (Or.inl (hw _ (List.mem_of_getElem? (i := 10) rfl))) Via.refl e1 F_a_tree E_a (Or.inr ⟨(hw _ (List.mem_of_getElem? (i := 11) rfl)), rfl, hnm⟩) (hw _ (List.mem_of_getElem? (i := 2) rfl)) (ty := .int) (by decide) rfl rfl (g := (mkF m 6 #[.val (.ref a), .val (.int x1), .val (.ref b)] [(.int x1), (.ref a)])) rfl rfl (hb hby d1_6)
  refine Go.of st2 ?_
  have Zs := Nat.le_trans Zs (Nat.le_of_eq W2.size.symm)
  have Kp := Kp.wr W2 (Or.inl (List.mem_of_getElem? (i := 0) rfl))
  have E_a := E_a.wr W2
  have F_a_tree := F_a_tree.same W2
  have F_a_bytes := F_a_bytes.other W2 (Or.inr (slot_ne (Or.inr (hw _ (List.mem_of_getElem? (i := 13) rfl))) (Or.inr (hw _ (List.mem_of_getElem? (i := 11) rfl))) (by decide) (t := (.array .byte)) (t' := .int) (by decide) (by decide)))
  have F_a_hash := F_a_hash.other W2 (Or.inr (slot_ne (Or.inr (hw _ (List.mem_of_getElem? (i := 28) rfl))) (Or.inr (hw _ (List.mem_of_getElem? (i := 11) rfl))) (by decide) (t := .int) (t' := .int) (by decide) (by decide)))
  have A_b := A_b.other W2 ne_b_a
  have E_b := E_b.wr W2
  have N2 := Fr.snoc X2 N0 g_a
  show Go _ _ _ _ _ _ _ (T2.setTop (mkF m 9 #[.val (.ref a), .val (.int x1), .val (.ref b)] []))
  refine Go.of (fun _ q => XS.aloadN X2.here hx rfl (hb hby d1_9) rfl rfl q) ?_
  show Go _ _ _ _ _ _ _ (T2.setTop (mkF m 10 #[.val (.ref a), .val (.int x1), .val (.ref b)] [(.ref a)]))
  refine Go.of (fun _ q => XS.aloadN X2.here hx rfl (hb hby d1_10) rfl rfl q) ?_
  show Go _ _ _ _ _ _ _ (T2.setTop (mkF m 11 #[.val (.ref a), .val (.int x1), .val (.ref b)] [(.ref b), (.ref a)]))
  obtain ⟨T3, h3, X3, e3, W3, st3⟩ := putF X2 hx hZ hown (host := "") (Or.inl (hw _ (List.mem_of_getElem? (i := 12) rfl))) Via.refl e2 F_a_bytes E_a (Or.inr ⟨(hw _ (List.mem_of_getElem? (i := 13) rfl)), rfl, hnm⟩) (hw _ (List.mem_of_getElem? (i := 2) rfl)) (ty := (.array .byte)) (by decide) rfl rfl (g := (mkF m 11 #[.val (.ref a), .val (.int x1), .val (.ref b)] [(.ref b), (.ref a)])) rfl rfl (hb hby d1_11)
  refine Go.of st3 ?_
  have Zs := Nat.le_trans Zs (Nat.le_of_eq W3.size.symm)
  have Kp := Kp.wr W3 (Or.inl (List.mem_of_getElem? (i := 0) rfl))
  have E_a := E_a.wr W3
  have F_a_tree := F_a_tree.other W3 (Or.inr (slot_ne (Or.inr (hw _ (List.mem_of_getElem? (i := 11) rfl))) (Or.inr (hw _ (List.mem_of_getElem? (i := 13) rfl))) (by decide) (t := .int) (t' := (.array .byte)) (by decide) (by decide)))
  have F_a_bytes := F_a_bytes.same W3
  have F_a_hash := F_a_hash.other W3 (Or.inr (slot_ne (Or.inr (hw _ (List.mem_of_getElem? (i := 28) rfl))) (Or.inr (hw _ (List.mem_of_getElem? (i := 13) rfl))) (by decide) (t := .int) (t' := (.array .byte)) (by decide) (by decide)))
  have A_b := A_b.other W3 ne_b_a
  have E_b := E_b.wr W3
  have N3 := Fr.snoc X3 N2 g_a
  show Go _ _ _ _ _ _ _ (T3.setTop (mkF m 14 #[.val (.ref a), .val (.int x1), .val (.ref b)] []))
  refine Go.of (fun _ q => XS.aloadN X3.here hx rfl (hb hby d1_14) rfl rfl q) ?_
  show Go _ _ _ _ _ _ _ (T3.setTop (mkF m 15 #[.val (.ref a), .val (.int x1), .val (.ref b)] [(.ref a)]))
  refine Go.of (fun _ q => XS.bipush X3.here hx rfl (hb hby d1_15) q) ?_
  show Go _ _ _ _ _ _ _ (T3.setTop (mkF m 17 #[.val (.ref a), .val (.int x1), .val (.ref b)] [(.int (31 : Int32)), (.ref a)]))
  refine Go.of (fun _ q => XS.iloadN X3.here hx rfl (hb hby d1_17) rfl q) ?_
  show Go _ _ _ _ _ _ _ (T3.setTop (mkF m 18 #[.val (.ref a), .val (.int x1), .val (.ref b)] [(.int x1), (.int (31 : Int32)), (.ref a)]))
  refine Go.of (fun _ q => XS.imul X3.here hx rfl (hb hby d1_18) rfl q) ?_
  show Go _ _ _ _ _ _ _ (T3.setTop (mkF m 19 #[.val (.ref a), .val (.int x1), .val (.ref b)] [(.int ((31 : Int32) * x1)), (.ref a)]))
  refine Go.of (fun _ q => XS.aloadN X3.here hx rfl (hb hby d1_19) rfl rfl q) ?_
  show Go _ _ _ _ _ _ _ (T3.setTop (mkF m 20 #[.val (.ref a), .val (.int x1), .val (.ref b)] [(.ref b), (.int ((31 : Int32) * x1)), (.ref a)]))
  refine Go.static X3 hx hZ (y := (⟨"java/util/Arrays", "hashCode", "([B)I"⟩ : MethodName)) (argsL := [(.ref b)]) hown (hw _ (List.mem_of_getElem? (i := 14) rfl)) (hw _ (List.mem_of_getElem? (i := 15) rfl)) (hw _ (List.mem_of_getElem? (i := 16) rfl)) (hw _ (List.mem_of_getElem? (i := 17) rfl)) (by decide) 2 e3 (rm3_1 l Z a0 hw b kb gb h3 n0 Zs A_b E_b) (by decide) (by decide) (by decide) (by decide) (g := (mkF m 20 #[.val (.ref a), .val (.int x1), .val (.ref b)] [(.ref b), (.int ((31 : Int32) * x1)), (.ref a)])) rfl (by rw [hml]; rfl) (rest := [(.int ((31 : Int32) * x1)), (.ref a)]) (lenOf pd1 rfl) rfl (by show 2 * 0 + _ ≤ _; exact Nat.le_of_eq rfl) (hb hby d1_20) ?_
  intro T4 v4 L4 X4 q4
  obtain ⟨z1, rfl, Nq4, e4⟩ := q4
  have N4 := Fr.app N3 Nq4
  show Go _ _ _ _ _ _ _ (T4.setTop (mkF m 23 #[.val (.ref a), .val (.int x1), .val (.ref b)] [(.int z1), (.int ((31 : Int32) * x1)), (.ref a)]))
  refine Go.of (fun _ q => XS.iadd X4.here hx rfl (hb hby d1_23) rfl q) ?_
  show Go _ _ _ _ _ _ _ (T4.setTop (mkF m 24 #[.val (.ref a), .val (.int x1), .val (.ref b)] [(.int (((31 : Int32) * x1) + z1)), (.ref a)]))
  obtain ⟨T5, h5, X5, e5, W5, st5⟩ := putF X4 hx hZ hown (host := "") (Or.inl (hw _ (List.mem_of_getElem? (i := 27) rfl))) Via.refl e4 F_a_hash E_a (Or.inr ⟨(hw _ (List.mem_of_getElem? (i := 28) rfl)), rfl, hnm⟩) (hw _ (List.mem_of_getElem? (i := 2) rfl)) (ty := .int) (by decide) rfl rfl (g := (mkF m 24 #[.val (.ref a), .val (.int x1), .val (.ref b)] [(.int (((31 : Int32) * x1) + z1)), (.ref a)])) rfl rfl (hb hby d1_24)
  refine Go.of st5 ?_
  have Zs := Nat.le_trans Zs (Nat.le_of_eq W5.size.symm)
  have Kp := Kp.wr W5 (Or.inl (List.mem_of_getElem? (i := 0) rfl))
  have E_a := E_a.wr W5
  have F_a_tree := F_a_tree.other W5 (Or.inr (slot_ne (Or.inr (hw _ (List.mem_of_getElem? (i := 11) rfl))) (Or.inr (hw _ (List.mem_of_getElem? (i := 28) rfl))) (by decide) (t := .int) (t' := .int) (by decide) (by decide)))
  have F_a_bytes := F_a_bytes.other W5 (Or.inr (slot_ne (Or.inr (hw _ (List.mem_of_getElem? (i := 13) rfl))) (Or.inr (hw _ (List.mem_of_getElem? (i := 28) rfl))) (by decide) (t := (.array .byte)) (t' := .int) (by decide) (by decide)))
  have F_a_hash := F_a_hash.same W5
  have A_b := A_b.other W5 ne_b_a
  have E_b := E_b.wr W5
  have N5 := Fr.snoc X5 N4 g_a
  show Go _ _ _ _ _ _ _ (T5.setTop (mkF m 27 #[.val (.ref a), .val (.int x1), .val (.ref b)] []))
  refine Go.retV X5 hx hlk hret (hb hby d1_27) (by decide) (by decide) ?_
  rw [e5]
  exact ⟨rfl, N5, Kp, E_a, F_a_bytes⟩
theorem d6_12 : decode prog_25_method_5_code 12 = .ok (.iconst 0, 1) := by decide +kernel
theorem ef_6_1 (m : MethodId) (a : Addr) : entryFrame m #[(.ref a)] 1 = mkF m 0 #[.val (.ref a)] [] := by first | (simp [entryFrame, mkF, argsToLocals, Value.category]; done) | rfl
def Q6_1 (Z : State) (a : Addr) (b : Addr) (kb : ClassId) (gb : Nat → Int32) (h0 : Heap) (n0 : Nat) (v : Option Value) (h : Heap) (L : List Loc) : Prop := v = some (.int (0 : Int32)) ∧ Fr n0 L ∧ h = h0
set_option maxRecDepth 65536 in
set_option maxHeartbeats 40000000 in
theorem rm6_1 (l : Launch) (Z : State) (a0 : Array Value) (hw : ∀ d ∈ tables_1, d.before a0 Z = true) (a : Addr) (b : Addr) (kb : ClassId) (gb : Nat → Int32) (h0 : Heap) (n0 : Nat) (Zs : n0 ≤ h0.size) (F_a_bytes : Fld Z h0 a "com/example/latchwork/latchwork/Key" "bytes" "[B" (.ref b)) (A_b : AF Z h0 b kb .byte 1 (fun i => .int (gb i))) :
    Con l Z (⟨"com/example/latchwork/latchwork/Key", "isEnd", "()Z"⟩ : MethodName) prog_25_method_5_code 1 (some .boolean) ({ frames := 0, cells := 0, slots := 0, locals := 0 } : Room) #[(.ref a)] h0 (Q6_1 Z a b kb gb h0 n0) := by
  refine Con.intro (plainFor_of_name pn2) (fun m => ef_6_1 m a) ?_
  intro p e s m below meth c s₁ hx hby hml0 hZ hown hnm hret hlk X0 e0
  have hml : c.maxLocals = 1 := hml0
  have N0 := Fr.nil n0
  have Kp : Keep h0 h0 [] := Keep.refl h0 _
  show Go _ _ _ _ _ _ _ (s₁.setTop (mkF m 0 #[.val (.ref a)] []))
  refine Go.of (fun _ q => XS.aloadN X0.here hx rfl (hb hby d6_0) rfl rfl q) ?_
  show Go _ _ _ _ _ _ _ (s₁.setTop (mkF m 1 #[.val (.ref a)] [(.ref a)]))
  obtain ⟨T1, X1, e1, st1⟩ := getF X0 hx hZ hown (host := "") (Or.inl (hw _ (List.mem_of_getElem? (i := 12) rfl))) Via.refl e0 F_a_bytes (g := (mkF m 1 #[.val (.ref a)] [(.ref a)])) rfl rfl (hb hby d6_1)
  refine Go.of st1 ?_
  show Go _ _ _ _ _ _ _ (T1.setTop (mkF m 4 #[.val (.ref a)] [(.ref b)]))
  refine Go.of (fun _ q => AF.length A_b X1 hx hZ e1 rfl (g := (mkF m 4 #[.val (.ref a)] [(.ref b)])) rfl rfl (hb hby d6_4) q) ?_
  show Go _ _ _ _ _ _ _ (T1.setTop (mkF m 5 #[.val (.ref a)] [(.int (1 : Int32))]))
  refine Go.of (fun _ q => XS.ifYes X1.here hx rfl (pc0 := 5) (pc' := 12) rfl (hb hby d6_5) rfl ((if0 _ _).trans (feq (by decide)).2) (by decide) (by decide) q) ?_
  show Go _ _ _ _ _ _ _ (T1.setTop (mkF m 12 #[.val (.ref a)] []))
  refine Go.of (fun _ q => XS.iconst X1.here hx rfl (hb hby d6_12) q) ?_
  show Go _ _ _ _ _ _ _ (T1.setTop (mkF m 13 #[.val (.ref a)] [(.int (0 : Int32))]))
  refine Go.retN X1 hx hlk (t := .boolean) hret (by simp) (hb hby d6_13) rfl (by decide) (by decide) ?_
  rw [e1]
  exact ⟨rfl, N0, rfl⟩
theorem pd2 : parseMethodDescriptor "(Ljava/lang/Object;IIII)I" = some ⟨[(.object "java/lang/Object"), .int, .int, .int, .int], some .int⟩ := by decide +kernel
theorem d3_49 : decode jdk_65_method_153_code 49 = .ok (.aload_n 0, 1) := by decide +kernel
theorem d3_50 : decode jdk_65_method_153_code 50 = .ok (.iconst 0, 1) := by decide +kernel
theorem d3_51 : decode jdk_65_method_153_code 51 = .ok (.aload_n 0, 1) := by decide +kernel
theorem d3_52 : decode jdk_65_method_153_code 52 = .ok (.arraylength, 1) := by decide +kernel
theorem d3_53 : decode jdk_65_method_153_code 53 = .ok (.iconst 1, 1) := by decide +kernel
theorem d3_54 : decode jdk_65_method_153_code 54 = .ok (.bipush 8, 2) := by decide +kernel
theorem d3_56 : decode jdk_65_method_153_code 56 = .ok (.invokestatic 379, 3) := by decide +kernel
theorem ef_3_2 (m : MethodId) (b : Addr) : entryFrame m #[(.ref b)] 1 = mkF m 0 #[.val (.ref b)] [] := by first | (simp [entryFrame, mkF, argsToLocals, Value.category]; done) | rfl
def Q3_2 (Z : State) (b : Addr) (kb : ClassId) (gb : Nat → Int32) (h0 : Heap) (n0 : Nat) (v : Option Value) (h : Heap) (L : List Loc) : Prop := ∃ z : Int32, v = some (.int z) ∧ Fr n0 L ∧ h = h0
set_option maxRecDepth 65536 in
set_option maxHeartbeats 40000000 in
theorem rm3_2 (l : Launch) (Z : State) (a0 : Array Value) (hw : ∀ d ∈ tables_1, d.before a0 Z = true) (b : Addr) (kb : ClassId) (gb : Nat → Int32) (h0 : Heap) (n0 : Nat) (Zs : n0 ≤ h0.size) (A_b : AF Z h0 b kb .byte 2 (fun i => .int (gb i))) (E_b : Exa Z h0 b "[B") :
    Con l Z (⟨"java/util/Arrays", "hashCode", "([B)I"⟩ : MethodName) jdk_65_method_153_code 1 (some .int) ({ frames := 2, cells := 0, slots := 0, locals := 33 } : Room) #[(.ref b)] h0 (Q3_2 Z b kb gb h0 n0) := by
  refine Con.intro (plainFor_of_name pn1) (fun m => ef_3_2 m b) ?_
  intro p e s m below meth c s₁ hx hby hml0 hZ hown hnm hret hlk X0 e0
  have hml : c.maxLocals = 1 := hml0
  have N0 := Fr.nil n0
  have Kp : Keep h0 h0 [] := Keep.refl h0 _
  show Go _ _ _ _ _ _ _ (s₁.setTop (mkF m 0 #[.val (.ref b)] []))
  refine Go.of (fun _ q => XS.aloadN X0.here hx rfl (hb hby d3_0) rfl rfl q) ?_
  show Go _ _ _ _ _ _ _ (s₁.setTop (mkF m 1 #[.val (.ref b)] [(.ref b)]))
  refine Go.of (fun _ q => XS.ifnonnullYes X0.here hx rfl (pc0 := 1) (pc' := 6) rfl (hb hby d3_1) rfl (by decide) (by decide) q) ?_
  show Go _ _ _ _ _ _ _ (s₁.setTop (mkF m 6 #[.val (.ref b)] []))
  refine Go.of (fun _ q => XS.aloadN X0.here hx rfl (hb hby d3_6) rfl rfl q) ?_
  show Go _ _ _ _ _ _ _ (s₁.setTop (mkF m 7 #[.val (.ref b)] [(.ref b)]))
  refine Go.of (fun _ q => AF.length A_b X0 hx hZ e0 rfl (g := (mkF m 7 #[.val (.ref b)] [(.ref b)])) rfl rfl (hb hby d3_7) q) ?_
  show Go _ _ _ _ _ _ _ (s₁.setTop (mkF m 8 #[.val (.ref b)] [(.int (2 : Int32))]))
  refine Go.of (fun _ q => X0.lookupswitchMiss hx (g := (mkF m 8 #[.val (.ref b)] [(.int (2 : Int32))])) rfl rfl (hb hby d3_8) (by decide) (by decide) (show (0 : Int) ≤ ((8 : Nat) : Int) + 41 from by decide) _ q) ?_
  show Go _ _ _ _ _ _ _ (s₁.setTop (mkF m 49 #[.val (.ref b)] []))
  refine Go.of (fun _ q => XS.aloadN X0.here hx rfl (hb hby d3_49) rfl rfl q) ?_
  show Go _ _ _ _ _ _ _ (s₁.setTop (mkF m 50 #[.val (.ref b)] [(.ref b)]))
  refine Go.of (fun _ q => XS.iconst X0.here hx rfl (hb hby d3_50) q) ?_
  show Go _ _ _ _ _ _ _ (s₁.setTop (mkF m 51 #[.val (.ref b)] [(.int (0 : Int32)), (.ref b)]))
  refine Go.of (fun _ q => XS.aloadN X0.here hx rfl (hb hby d3_51) rfl rfl q) ?_
  show Go _ _ _ _ _ _ _ (s₁.setTop (mkF m 52 #[.val (.ref b)] [(.ref b), (.int (0 : Int32)), (.ref b)]))
  refine Go.of (fun _ q => AF.length A_b X0 hx hZ e0 rfl (g := (mkF m 52 #[.val (.ref b)] [(.ref b), (.int (0 : Int32)), (.ref b)])) rfl rfl (hb hby d3_52) q) ?_
  show Go _ _ _ _ _ _ _ (s₁.setTop (mkF m 53 #[.val (.ref b)] [(.int (2 : Int32)), (.int (0 : Int32)), (.ref b)]))
  refine Go.of (fun _ q => XS.iconst X0.here hx rfl (hb hby d3_53) q) ?_
  show Go _ _ _ _ _ _ _ (s₁.setTop (mkF m 54 #[.val (.ref b)] [(.int (1 : Int32)), (.int (2 : Int32)), (.int (0 : Int32)), (.ref b)]))
  refine Go.of (fun _ q => XS.bipush X0.here hx rfl (hb hby d3_54) q) ?_
  show Go _ _ _ _ _ _ _ (s₁.setTop (mkF m 56 #[.val (.ref b)] [(.int (8 : Int32)), (.int (1 : Int32)), (.int (2 : Int32)), (.int (0 : Int32)), (.ref b)]))
  refine Go.static X0 hx hZ (y := (⟨"jdk/internal/util/ArraysSupport", "vectorizedHashCode", "(Ljava/lang/Object;IIII)I"⟩ : MethodName)) (argsL := [(.ref b), (.int (0 : Int32)), (.int (2 : Int32)), (.int (1 : Int32)), (.int (8 : Int32))]) hown (hw _ (List.mem_of_getElem? (i := 18) rfl)) (hw _ (List.mem_of_getElem? (i := 19) rfl)) (hw _ (List.mem_of_getElem? (i := 20) rfl)) (hw _ (List.mem_of_getElem? (i := 21) rfl)) (by decide) 0 e0 (rm4_2 l Z a0 hw b kb gb h0 n0 Zs A_b E_b) (by decide) (by decide) (by decide) (by decide) (g := (mkF m 56 #[.val (.ref b)] [(.int (8 : Int32)), (.int (1 : Int32)), (.int (2 : Int32)), (.int (0 : Int32)), (.ref b)])) rfl (by rw [hml]; rfl) (rest := []) (lenOf pd2 rfl) rfl (by show 2 * 0 + _ ≤ _; exact Nat.le_of_eq rfl) (hb hby d3_56) ?_
  intro T1 v1 L1 X1 q1
  obtain ⟨z1, rfl, Nq1, e1⟩ := q1
  have N1 := Fr.app N0 Nq1
  show Go _ _ _ _ _ _ _ (T1.setTop (mkF m 59 #[.val (.ref b)] [(.int z1)]))
  refine Go.retI X1 hx hlk hret (hb hby d3_59) (by decide) (by decide) ?_
  rw [e1]
  exact ⟨z1, rfl, N1, rfl⟩
theorem ef_1_2 (m : MethodId) (a : Addr) (x1 : Int32) (b : Addr) : entryFrame m #[(.ref a), (.int x1), (.ref b)] 3 = mkF m 0 #[.val (.ref a), .val (.int x1), .val (.ref b)] [] := by first | (simp [entryFrame, mkF, argsToLocals, Value.category]; done) | rfl
def Q1_2 (Z : State) (a : Addr) (x1 : Int32) (b : Addr) (kb : ClassId) (gb : Nat → Int32) (u1 : Int32) (u2 : Value) (u3 : Int32) (h0 : Heap) (n0 : Nat) (v : Option Value) (h : Heap) (L : List Loc) : Prop := v = none ∧ Fr n0 L ∧ Keep h0 h [a] ∧ Exa Z h a "com/example/latchwork/latchwork/Key" ∧ Fld Z h a "com/example/latchwork/latchwork/Key" "bytes" "[B" (.ref b)
set_option maxRecDepth 65536 in
set_option maxHeartbeats 40000000 in
theorem rm1_2 (l : Launch) (Z : State) (a0 : Array Value) (hw : ∀ d ∈ tables_1, d.before a0 Z = true) (a : Addr) (x1 : Int32) (b : Addr) (kb : ClassId) (gb : Nat → Int32) (u1 : Int32) (u2 : Value) (u3 : Int32) (h0 : Heap) (n0 : Nat) (Zs : n0 ≤ h0.size) (E_a : Exa Z h0 a "com/example/latchwork/latchwork/Key") (F_a_tree : Fld Z h0 a "com/example/latchwork/latchwork/Key" "tree" "I" (.int u1)) (F_a_bytes : Fld Z h0 a "com/example/latchwork/latchwork/Key" "bytes" "[B" u2) (F_a_hash : Fld Z h0 a "com/example/latchwork/latchwork/Key" "hash" "I" (.int u3)) (g_a : n0 ≤ a) (A_b : AF Z h0 b kb .byte 2 (fun i => .int (gb i))) (E_b : Exa Z h0 b "[B") (ne_b_a : b ≠ a) :
    Con l Z (⟨"com/example/latchwork/latchwork/Key", "<init>", "(I[B)V"⟩ : MethodName) prog_25_method_1_code 3 none ({ frames := 3, cells := 0, slots := 0, locals := 47 } : Room) #[(.ref a), (.int x1), (.ref b)] h0 (Q1_2 Z a x1 b kb gb u1 u2 u3 h0 n0) := by
  refine Con.intro (plainFor_of_name pn2) (fun m => ef_1_2 m a x1 b) ?_
  intro p e s m below meth c s₁ hx hby hml0 hZ hown hnm hret hlk X0 e0
  have hml : c.maxLocals = 3 := hml0
  have N0 := Fr.nil n0
  have Kp : Keep h0 h0 [a] := Keep.refl h0 _
  show Go _ _ _ _ _ _ _ (s₁.setTop (mkF m 0 #[.val (.ref a), .val (.int x1), .val (.ref b)] []))
  refine Go.of (fun _ q => XS.aloadN X0.here hx rfl (hb hby d1_0) rfl rfl q) ?_
  show Go _ _ _ _ _ _ _ (s₁.setTop (mkF m 1 #[.val (.ref a), .val (.int x1), .val (.ref b)] [(.ref a)]))
  obtain ⟨T1, X1, e1, st1⟩ := initO X0 hx hZ hown (hw _ (List.mem_of_getElem? (i := 7) rfl)) (hw _ (List.mem_of_getElem? (i := 8) rfl)) (hw _ (List.mem_of_getElem? (i := 9) rfl)) e0 (g := (mkF m 1 #[.val (.ref a), .val (.int x1), .val (.ref b)] [(.ref a)])) rfl (by rw [hml]; rfl) rfl (hb hby d1_1) (by decide) (W := 0) (by show 2 * 0 + _ ≤ _; exact Nat.le_of_eq rfl) (by decide)
  refine Go.of st1 ?_
  show Go _ _ _ _ _ _ _ (T1.setTop (mkF m 4 #[.val (.ref a), .val (.int x1), .val (.ref b)] []))
  refine Go.of (fun _ q => XS.aloadN X1.here hx rfl (hb hby d1_4) rfl rfl q) ?_
  show Go _ _ _ _ _ _ _ (T1.setTop (mkF m 5 #[.val (.ref a), .val (.int x1), .val (.ref b)] [(.ref a)]))
  refine Go.of (fun _ q => XS.iloadN X1.here hx rfl (hb hby d1_5) rfl q) ?_
  show Go _ _ _ _ _ _ _ (T1.setTop (mkF m 6 #[.val (.ref a), .val (.int x1), .val (.ref b)] [(.int x1), (.ref a)]))
  obtain ⟨T2, h2, X2, e2, W2, st2⟩ := putF X1 hx hZ hown (host := "") (Or.inl (hw _ (List.mem_of_getElem? (i := 10) rfl))) Via.refl e1 F_a_tree E_a (Or.inr ⟨(hw _ (List.mem_of_getElem? (i := 11) rfl)), rfl, hnm⟩) (hw _ (List.mem_of_getElem? (i := 2) rfl)) (ty := .int) (by decide) rfl rfl (g := (mkF m 6 #[.val (.ref a), .val (.int x1), .val (.ref b)] [(.int x1), (.ref a)])) rfl rfl (hb hby d1_6)
  refine Go.of st2 ?_
  have Zs := Nat.le_trans Zs (Nat.le_of_eq W2.size.symm)
  have Kp := Kp.wr W2 (Or.inl (List.mem_of_getElem? (i := 0) rfl))
  have E_a := E_a.wr W2
  have F_a_tree := F_a_tree.same W2
  have F_a_bytes := F_a_bytes.other W2 (Or.inr (slot_ne (Or.inr (hw _ (List.mem_of_getElem? (i := 13) rfl))) (Or.inr (hw _ (List.mem_of_getElem? (i := 11) rfl))) (by decide) (t := (.array .byte)) (t' := .int) (by decide) (by decide)))
  have F_a_hash := F_a_hash.other W2 (Or.inr (slot_ne (Or.inr (hw _ (List.mem_of_getElem? (i := 28) rfl))) (Or.inr (hw _ (List.mem_of_getElem? (i := 11) rfl))) (by decide) (t := .int) (t' := .int) (by decide) (by decide)))
  have A_b := A_b.other W2 ne_b_a
  have E_b := E_b.wr W2
  have N2 := Fr.snoc X2 N0 g_a
  show Go _ _ _ _ _ _ _ (T2.setTop (mkF m 9 #[.val (.ref a), .val (.int x1), .val (.ref b)] []))
  refine Go.of (fun _ q => XS.aloadN X2.here hx rfl (hb hby d1_9) rfl rfl q) ?_
  show Go _ _ _ _ _ _ _ (T2.setTop (mkF m 10 #[.val (.ref a), .val (.int x1), .val (.ref b)] [(.ref a)]))
  refine Go.of (fun _ q => XS.aloadN X2.here hx rfl (hb hby d1_10) rfl rfl q) ?_
  show Go _ _ _ _ _ _ _ (T2.setTop (mkF m 11 #[.val (.ref a), .val (.int x1), .val (.ref b)] [(.ref b), (.ref a)]))
  obtain ⟨T3, h3, X3, e3, W3, st3⟩ := putF X2 hx hZ hown (host := "") (Or.inl (hw _ (List.mem_of_getElem? (i := 12) rfl))) Via.refl e2 F_a_bytes E_a (Or.inr ⟨(hw _ (List.mem_of_getElem? (i := 13) rfl)), rfl, hnm⟩) (hw _ (List.mem_of_getElem? (i := 2) rfl)) (ty := (.array .byte)) (by decide) rfl rfl (g := (mkF m 11 #[.val (.ref a), .val (.int x1), .val (.ref b)] [(.ref b), (.ref a)])) rfl rfl (hb hby d1_11)
  refine Go.of st3 ?_
  have Zs := Nat.le_trans Zs (Nat.le_of_eq W3.size.symm)
  have Kp := Kp.wr W3 (Or.inl (List.mem_of_getElem? (i := 0) rfl))
  have E_a := E_a.wr W3
  have F_a_tree := F_a_tree.other W3 (Or.inr (slot_ne (Or.inr (hw _ (List.mem_of_getElem? (i := 11) rfl))) (Or.inr (hw _ (List.mem_of_getElem? (i := 13) rfl))) (by decide) (t := .int) (t' := (.array .byte)) (by decide) (by decide)))
  have F_a_bytes := F_a_bytes.same W3
  have F_a_hash := F_a_hash.other W3 (Or.inr (slot_ne (Or.inr (hw _ (List.mem_of_getElem? (i := 28) rfl))) (Or.inr (hw _ (List.mem_of_getElem? (i := 13) rfl))) (by decide) (t := .int) (t' := (.array .byte)) (by decide) (by decide)))
  have A_b := A_b.other W3 ne_b_a
  have E_b := E_b.wr W3
  have N3 := Fr.snoc X3 N2 g_a
  show Go _ _ _ _ _ _ _ (T3.setTop (mkF m 14 #[.val (.ref a), .val (.int x1), .val (.ref b)] []))
  refine Go.of (fun _ q => XS.aloadN X3.here hx rfl (hb hby d1_14) rfl rfl q) ?_
  show Go _ _ _ _ _ _ _ (T3.setTop (mkF m 15 #[.val (.ref a), .val (.int x1), .val (.ref b)] [(.ref a)]))
  refine Go.of (fun _ q => XS.bipush X3.here hx rfl (hb hby d1_15) q) ?_
  show Go _ _ _ _ _ _ _ (T3.setTop (mkF m 17 #[.val (.ref a), .val (.int x1), .val (.ref b)] [(.int (31 : Int32)), (.ref a)]))
  refine Go.of (fun _ q => XS.iloadN X3.here hx rfl (hb hby d1_17) rfl q) ?_
  show Go _ _ _ _ _ _ _ (T3.setTop (mkF m 18 #[.val (.ref a), .val (.int x1), .val (.ref b)] [(.int x1), (.int (31 : Int32)), (.ref a)]))
  refine Go.of (fun _ q => XS.imul X3.here hx rfl (hb hby d1_18) rfl q) ?_
  show Go _ _ _ _ _ _ _ (T3.setTop (mkF m 19 #[.val (.ref a), .val (.int x1), .val (.ref b)] [(.int ((31 : Int32) * x1)), (.ref a)]))
  refine Go.of (fun _ q => XS.aloadN X3.here hx rfl (hb hby d1_19) rfl rfl q) ?_
  show Go _ _ _ _ _ _ _ (T3.setTop (mkF m 20 #[.val (.ref a), .val (.int x1), .val (.ref b)] [(.ref b), (.int ((31 : Int32) * x1)), (.ref a)]))
  refine Go.static X3 hx hZ (y := (⟨"java/util/Arrays", "hashCode", "([B)I"⟩ : MethodName)) (argsL := [(.ref b)]) hown (hw _ (List.mem_of_getElem? (i := 14) rfl)) (hw _ (List.mem_of_getElem? (i := 15) rfl)) (hw _ (List.mem_of_getElem? (i := 16) rfl)) (hw _ (List.mem_of_getElem? (i := 17) rfl)) (by decide) 2 e3 (rm3_2 l Z a0 hw b kb gb h3 n0 Zs A_b E_b) (by decide) (by decide) (by decide) (by decide) (g := (mkF m 20 #[.val (.ref a), .val (.int x1), .val (.ref b)] [(.ref b), (.int ((31 : Int32) * x1)), (.ref a)])) rfl (by rw [hml]; rfl) (rest := [(.int ((31 : Int32) * x1)), (.ref a)]) (lenOf pd1 rfl) rfl (by show 2 * 0 + _ ≤ _; exact Nat.le_of_eq rfl) (hb hby d1_20) ?_
  intro T4 v4 L4 X4 q4
  obtain ⟨z1, rfl, Nq4, e4⟩ := q4
  have N4 := Fr.app N3 Nq4
  show Go _ _ _ _ _ _ _ (T4.setTop (mkF m 23 #[.val (.ref a), .val (.int x1), .val (.ref b)] [(.int z1), (.int ((31 : Int32) * x1)), (.ref a)]))
  refine Go.of (fun _ q => XS.iadd X4.here hx rfl (hb hby d1_23) rfl q) ?_
  show Go _ _ _ _ _ _ _ (T4.setTop (mkF m 24 #[.val (.ref a), .val (.int x1), .val (.ref b)] [(.int (((31 : Int32) * x1) + z1)), (.ref a)]))
  obtain ⟨T5, h5, X5, e5, W5, st5⟩ := putF X4 hx hZ hown (host := "") (Or.inl (hw _ (List.mem_of_getElem? (i := 27) rfl))) Via.refl e4 F_a_hash E_a (Or.inr ⟨(hw _ (List.mem_of_getElem? (i := 28) rfl)), rfl, hnm⟩) (hw _ (List.mem_of_getElem? (i := 2) rfl)) (ty := .int) (by decide) rfl rfl (g := (mkF m 24 #[.val (.ref a), .val (.int x1), .val (.ref b)] [(.int (((31 : Int32) * x1) + z1)), (.ref a)])) rfl rfl (hb hby d1_24)
  refine Go.of st5 ?_
  have Zs := Nat.le_trans Zs (Nat.le_of_eq W5.size.symm)
  have Kp := Kp.wr W5 (Or.inl (List.mem_of_getElem? (i := 0) rfl))
  have E_a := E_a.wr W5
  have F_a_tree := F_a_tree.other W5 (Or.inr (slot_ne (Or.inr (hw _ (List.mem_of_getElem? (i := 11) rfl))) (Or.inr (hw _ (List.mem_of_getElem? (i := 28) rfl))) (by decide) (t := .int) (t' := .int) (by decide) (by decide)))
  have F_a_bytes := F_a_bytes.other W5 (Or.inr (slot_ne (Or.inr (hw _ (List.mem_of_getElem? (i := 13) rfl))) (Or.inr (hw _ (List.mem_of_getElem? (i := 28) rfl))) (by decide) (t := (.array .byte)) (t' := .int) (by decide) (by decide)))
  have F_a_hash := F_a_hash.same W5
  have A_b := A_b.other W5 ne_b_a
  have E_b := E_b.wr W5
  have N5 := Fr.snoc X5 N4 g_a
  show Go _ _ _ _ _ _ _ (T5.setTop (mkF m 27 #[.val (.ref a), .val (.int x1), .val (.ref b)] []))
  refine Go.retV X5 hx hlk hret (hb hby d1_27) (by decide) (by decide) ?_
  rw [e5]
  exact ⟨rfl, N5, Kp, E_a, F_a_bytes⟩
theorem ef_6_2 (m : MethodId) (a : Addr) : entryFrame m #[(.ref a)] 1 = mkF m 0 #[.val (.ref a)] [] := by first | (simp [entryFrame, mkF, argsToLocals, Value.category]; done) | rfl
def Q6_2 (Z : State) (a : Addr) (b : Addr) (kb : ClassId) (gb : Nat → Int32) (h0 : Heap) (n0 : Nat) (v : Option Value) (h : Heap) (L : List Loc) : Prop := v = some (.int (0 : Int32)) ∧ Fr n0 L ∧ h = h0
set_option maxRecDepth 65536 in
set_option maxHeartbeats 40000000 in
theorem rm6_2 (l : Launch) (Z : State) (a0 : Array Value) (hw : ∀ d ∈ tables_1, d.before a0 Z = true) (a : Addr) (b : Addr) (kb : ClassId) (gb : Nat → Int32) (h0 : Heap) (n0 : Nat) (Zs : n0 ≤ h0.size) (F_a_bytes : Fld Z h0 a "com/example/latchwork/latchwork/Key" "bytes" "[B" (.ref b)) (A_b : AF Z h0 b kb .byte 2 (fun i => .int (gb i))) :
    Con l Z (⟨"com/example/latchwork/latchwork/Key", "isEnd", "()Z"⟩ : MethodName) prog_25_method_5_code 1 (some .boolean) ({ frames := 0, cells := 0, slots := 0, locals := 0 } : Room) #[(.ref a)] h0 (Q6_2 Z a b kb gb h0 n0) := by
  refine Con.intro (plainFor_of_name pn2) (fun m => ef_6_2 m a) ?_
  intro p e s m below meth c s₁ hx hby hml0 hZ hown hnm hret hlk X0 e0
  have hml : c.maxLocals = 1 := hml0
  have N0 := Fr.nil n0
  have Kp : Keep h0 h0 [] := Keep.refl h0 _
  show Go _ _ _ _ _ _ _ (s₁.setTop (mkF m 0 #[.val (.ref a)] []))
  refine Go.of (fun _ q => XS.aloadN X0.here hx rfl (hb hby d6_0) rfl rfl q) ?_
  show Go _ _ _ _ _ _ _ (s₁.setTop (mkF m 1 #[.val (.ref a)] [(.ref a)]))
  obtain ⟨T1, X1, e1, st1⟩ := getF X0 hx hZ hown (host := "") (Or.inl (hw _ (List.mem_of_getElem? (i := 12) rfl))) Via.refl e0 F_a_bytes (g := (mkF m 1 #[.val (.ref a)] [(.ref a)])) rfl rfl (hb hby d6_1)
  refine Go.of st1 ?_
  show Go _ _ _ _ _ _ _ (T1.setTop (mkF m 4 #[.val (.ref a)] [(.ref b)]))
  refine Go.of (fun _ q => AF.length A_b X1 hx hZ e1 rfl (g := (mkF m 4 #[.val (.ref a)] [(.ref b)])) rfl rfl (hb hby d6_4) q) ?_
  show Go _ _ _ _ _ _ _ (T1.setTop (mkF m 5 #[.val (.ref a)] [(.int (2 : Int32))]))
  refine Go.of (fun _ q => XS.ifYes X1.here hx rfl (pc0 := 5) (pc' := 12) rfl (hb hby d6_5) rfl ((if0 _ _).trans (feq (by decide)).2) (by decide) (by decide) q) ?_
  show Go _ _ _ _ _ _ _ (T1.setTop (mkF m 12 #[.val (.ref a)] []))
  refine Go.of (fun _ q => XS.iconst X1.here hx rfl (hb hby d6_12) q) ?_
  show Go _ _ _ _ _ _ _ (T1.setTop (mkF m 13 #[.val (.ref a)] [(.int (0 : Int32))]))
  refine Go.retN X1 hx hlk (t := .boolean) hret (by simp) (hb hby d6_13) rfl (by decide) (by decide) ?_
  rw [e1]
  exact ⟨rfl, N0, rfl⟩
theorem ef_3_3 (m : MethodId) (b : Addr) : entryFrame m #[(.ref b)] 1 = mkF m 0 #[.val (.ref b)] [] := by first | (simp [entryFrame, mkF, argsToLocals, Value.category]; done) | rfl
def Q3_3 (Z : State) (b : Addr) (kb : ClassId) (gb : Nat → Int32) (h0 : Heap) (n0 : Nat) (v : Option Value) (h : Heap) (L : List Loc) : Prop := ∃ z : Int32, v = some (.int z) ∧ Fr n0 L ∧ h = h0
set_option maxRecDepth 65536 in
set_option maxHeartbeats 40000000 in
theorem rm3_3 (l : Launch) (Z : State) (a0 : Array Value) (hw : ∀ d ∈ tables_1, d.before a0 Z = true) (b : Addr) (kb : ClassId) (gb : Nat → Int32) (h0 : Heap) (n0 : Nat) (Zs : n0 ≤ h0.size) (A_b : AF Z h0 b kb .byte 3 (fun i => .int (gb i))) (E_b : Exa Z h0 b "[B") :
    Con l Z (⟨"java/util/Arrays", "hashCode", "([B)I"⟩ : MethodName) jdk_65_method_153_code 1 (some .int) ({ frames := 2, cells := 0, slots := 0, locals := 33 } : Room) #[(.ref b)] h0 (Q3_3 Z b kb gb h0 n0) := by
  refine Con.intro (plainFor_of_name pn1) (fun m => ef_3_3 m b) ?_
  intro p e s m below meth c s₁ hx hby hml0 hZ hown hnm hret hlk X0 e0
  have hml : c.maxLocals = 1 := hml0
  have N0 := Fr.nil n0
  have Kp : Keep h0 h0 [] := Keep.refl h0 _
  show Go _ _ _ _ _ _ _ (s₁.setTop (mkF m 0 #[.val (.ref b)] []))
  refine Go.of (fun _ q => XS.aloadN X0.here hx rfl (hb hby d3_0) rfl rfl q) ?_
  show Go _ _ _ _ _ _ _ (s₁.setTop (mkF m 1 #[.val (.ref b)] [(.ref b)]))
  refine Go.of (fun _ q => XS.ifnonnullYes X0.here hx rfl (pc0 := 1) (pc' := 6) rfl (hb hby d3_1) rfl (by decide) (by decide) q) ?_
  show Go _ _ _ _ _ _ _ (s₁.setTop (mkF m 6 #[.val (.ref b)] []))
  refine Go.of (fun _ q => XS.aloadN X0.here hx rfl (hb hby d3_6) rfl rfl q) ?_
  show Go _ _ _ _ _ _ _ (s₁.setTop (mkF m 7 #[.val (.ref b)] [(.ref b)]))
  refine Go.of (fun _ q => AF.length A_b X0 hx hZ e0 rfl (g := (mkF m 7 #[.val (.ref b)] [(.ref b)])) rfl rfl (hb hby d3_7) q) ?_
  show Go _ _ _ _ _ _ _ (s₁.setTop (mkF m 8 #[.val (.ref b)] [(.int (3 : Int32))]))
  refine Go.of (fun _ q => X0.lookupswitchMiss hx (g := (mkF m 8 #[.val (.ref b)] [(.int (3 : Int32))])) rfl rfl (hb hby d3_8) (by decide) (by decide) (show (0 : Int) ≤ ((8 : Nat) : Int) + 41 from by decide) _ q) ?_
  show Go _ _ _ _ _ _ _ (s₁.setTop (mkF m 49 #[.val (.ref b)] []))
  refine Go.of (fun _ q => XS.aloadN X0.here hx rfl (hb hby d3_49) rfl rfl q) ?_
  show Go _ _ _ _ _ _ _ (s₁.setTop (mkF m 50 #[.val (.ref b)] [(.ref b)]))
  refine Go.of (fun _ q => XS.iconst X0.here hx rfl (hb hby d3_50) q) ?_
  show Go _ _ _ _ _ _ _ (s₁.setTop (mkF m 51 #[.val (.ref b)] [(.int (0 : Int32)), (.ref b)]))
  refine Go.of (fun _ q => XS.aloadN X0.here hx rfl (hb hby d3_51) rfl rfl q) ?_
  show Go _ _ _ _ _ _ _ (s₁.setTop (mkF m 52 #[.val (.ref b)] [(.ref b), (.int (0 : Int32)), (.ref b)]))
  refine Go.of (fun _ q => AF.length A_b X0 hx hZ e0 rfl (g := (mkF m 52 #[.val (.ref b)] [(.ref b), (.int (0 : Int32)), (.ref b)])) rfl rfl (hb hby d3_52) q) ?_
  show Go _ _ _ _ _ _ _ (s₁.setTop (mkF m 53 #[.val (.ref b)] [(.int (3 : Int32)), (.int (0 : Int32)), (.ref b)]))
  refine Go.of (fun _ q => XS.iconst X0.here hx rfl (hb hby d3_53) q) ?_
  show Go _ _ _ _ _ _ _ (s₁.setTop (mkF m 54 #[.val (.ref b)] [(.int (1 : Int32)), (.int (3 : Int32)), (.int (0 : Int32)), (.ref b)]))
  refine Go.of (fun _ q => XS.bipush X0.here hx rfl (hb hby d3_54) q) ?_
  show Go _ _ _ _ _ _ _ (s₁.setTop (mkF m 56 #[.val (.ref b)] [(.int (8 : Int32)), (.int (1 : Int32)), (.int (3 : Int32)), (.int (0 : Int32)), (.ref b)]))
  refine Go.static X0 hx hZ (y := (⟨"jdk/internal/util/ArraysSupport", "vectorizedHashCode", "(Ljava/lang/Object;IIII)I"⟩ : MethodName)) (argsL := [(.ref b), (.int (0 : Int32)), (.int (3 : Int32)), (.int (1 : Int32)), (.int (8 : Int32))]) hown (hw _ (List.mem_of_getElem? (i := 18) rfl)) (hw _ (List.mem_of_getElem? (i := 19) rfl)) (hw _ (List.mem_of_getElem? (i := 20) rfl)) (hw _ (List.mem_of_getElem? (i := 21) rfl)) (by decide) 0 e0 (rm4_3 l Z a0 hw b kb gb h0 n0 Zs A_b E_b) (by decide) (by decide) (by decide) (by decide) (g := (mkF m 56 #[.val (.ref b)] [(.int (8 : Int32)), (.int (1 : Int32)), (.int (3 : Int32)), (.int (0 : Int32)), (.ref b)])) rfl (by rw [hml]; rfl) (rest := []) (lenOf pd2 rfl) rfl (by show 2 * 0 + _ ≤ _; exact Nat.le_of_eq rfl) (hb hby d3_56) ?_
  intro T1 v1 L1 X1 q1
  obtain ⟨z1, rfl, Nq1, e1⟩ := q1
  have N1 := Fr.app N0 Nq1
  show Go _ _ _ _ _ _ _ (T1.setTop (mkF m 59 #[.val (.ref b)] [(.int z1)]))
  refine Go.retI X1 hx hlk hret (hb hby d3_59) (by decide) (by decide) ?_
  rw [e1]
  exact ⟨z1, rfl, N1, rfl⟩
theorem ef_1_3 (m : MethodId) (a : Addr) (x1 : Int32) (b : Addr) : entryFrame m #[(.ref a), (.int x1), (.ref b)] 3 = mkF m 0 #[.val (.ref a), .val (.int x1), .val (.ref b)] [] := by first | (simp [entryFrame, mkF, argsToLocals, Value.category]; done) | rfl
def Q1_3 (Z : State) (a : Addr) (x1 : Int32) (b : Addr) (kb : ClassId) (gb : Nat → Int32) (u1 : Int32) (u2 : Value) (u3 : Int32) (h0 : Heap) (n0 : Nat) (v : Option Value) (h : Heap) (L : List Loc) : Prop := v = none ∧ Fr n0 L ∧ Keep h0 h [a] ∧ Exa Z h a "com/example/latchwork/latchwork/Key" ∧ Fld Z h a "com/example/latchwork/latchwork/Key" "bytes" "[B" (.ref b)
set_option maxRecDepth 65536 in
set_option maxHeartbeats 40000000 in
theorem rm1_3 (l : Launch) (Z : State) (a0 : Array Value) (hw : ∀ d ∈ tables_1, d.before a0 Z = true) (a : Addr) (x1 : Int32) (b : Addr) (kb : ClassId) (gb : Nat → Int32) (u1 : Int32) (u2 : Value) (u3 : Int32) (h0 : Heap) (n0 : Nat) (Zs : n0 ≤ h0.size) (E_a : Exa Z h0 a "com/example/latchwork/latchwork/Key") (F_a_tree : Fld Z h0 a "com/example/latchwork/latchwork/Key" "tree" "I" (.int u1)) (F_a_bytes : Fld Z h0 a "com/example/latchwork/latchwork/Key" "bytes" "[B" u2) (F_a_hash : Fld Z h0 a "com/example/latchwork/latchwork/Key" "hash" "I" (.int u3)) (g_a : n0 ≤ a) (A_b : AF Z h0 b kb .byte 3 (fun i => .int (gb i))) (E_b : Exa Z h0 b "[B") (ne_b_a : b ≠ a) :
    Con l Z (⟨"com/example/latchwork/latchwork/Key", "<init>", "(I[B)V"⟩ : MethodName) prog_25_method_1_code 3 none ({ frames := 3, cells := 0, slots := 0, locals := 47 } : Room) #[(.ref a), (.int x1), (.ref b)] h0 (Q1_3 Z a x1 b kb gb u1 u2 u3 h0 n0) := by
  refine Con.intro (plainFor_of_name pn2) (fun m => ef_1_3 m a x1 b) ?_
  intro p e s m below meth c s₁ hx hby hml0 hZ hown hnm hret hlk X0 e0
  have hml : c.maxLocals = 3 := hml0
  have N0 := Fr.nil n0
  have Kp : Keep h0 h0 [a] := Keep.refl h0 _
  show Go _ _ _ _ _ _ _ (s₁.setTop (mkF m 0 #[.val (.ref a), .val (.int x1), .val (.ref b)] []))
  refine Go.of (fun _ q => XS.aloadN X0.here hx rfl (hb hby d1_0) rfl rfl q) ?_
  show Go _ _ _ _ _ _ _ (s₁.setTop (mkF m 1 #[.val (.ref a), .val (.int x1), .val (.ref b)] [(.ref a)]))
  obtain ⟨T1, X1, e1, st1⟩ := initO X0 hx hZ hown (hw _ (List.mem_of_getElem? (i := 7) rfl)) (hw _ (List.mem_of_getElem? (i := 8) rfl)) (hw _ (List.mem_of_getElem? (i := 9) rfl)) e0 (g := (mkF m 1 #[.val (.ref a), .val (.int x1), .val (.ref b)] [(.ref a)])) rfl (by rw [hml]; rfl) rfl (hb hby d1_1) (by decide) (W := 0) (by show 2 * 0 + _ ≤ _; exact Nat.le_of_eq rfl) (by decide)
  refine Go.of st1 ?_
  show Go _ _ _ _ _ _ _ (T1.setTop (mkF m 4 #[.val (.ref a), .val (.int x1), .val (.ref b)] []))
  refine Go.of (fun _ q => XS.aloadN X1.here hx rfl (hb hby d1_4) rfl rfl q) ?_
  show Go _ _ _ _ _ _ _ (T1.setTop (mkF m 5 #[.val (.ref a), .val (.int x1), .val (.ref b)] [(.ref a)]))
  refine Go.of (fun _ q => XS.iloadN X1.here hx rfl (hb hby d1_5) rfl q) ?_
  show Go _ _ _ _ _ _ _ (T1.setTop (mkF m 6 #[.val (.ref a), .val (.int x1), .val (.ref b)] [(.int x1), (.ref a)]))
  obtain ⟨T2, h2, X2, e2, W2, st2⟩ := putF X1 hx hZ hown (host := "") (Or.inl (hw _ (List.mem_of_getElem? (i := 10) rfl))) Via.refl e1 F_a_tree E_a (Or.inr ⟨(hw _ (List.mem_of_getElem? (i := 11) rfl)), rfl, hnm⟩) (hw _ (List.mem_of_getElem? (i := 2) rfl)) (ty := .int) (by decide) rfl rfl (g := (mkF m 6 #[.val (.ref a), .val (.int x1), .val (.ref b)] [(.int x1), (.ref a)])) rfl rfl (hb hby d1_6)
  refine Go.of st2 ?_
  have Zs := Nat.le_trans Zs (Nat.le_of_eq W2.size.symm)
  have Kp := Kp.wr W2 (Or.inl (List.mem_of_getElem? (i := 0) rfl))
  have E_a := E_a.wr W2
  have F_a_tree := F_a_tree.same W2
  have F_a_bytes := F_a_bytes.other W2 (Or.inr (slot_ne (Or.inr (hw _ (List.mem_of_getElem? (i := 13) rfl))) (Or.inr (hw _ (List.mem_of_getElem? (i := 11) rfl))) (by decide) (t := (.array .byte)) (t' := .int) (by decide) (by decide)))
  have F_a_hash := F_a_hash.other W2 (Or.inr (slot_ne (Or.inr (hw _ (List.mem_of_getElem? (i := 28) rfl))) (Or.inr (hw _ (List.mem_of_getElem? (i := 11) rfl))) (by decide) (t := .int) (t' := .int) (by decide) (by decide)))
  have A_b := A_b.other W2 ne_b_a
  have E_b := E_b.wr W2
  have N2 := Fr.snoc X2 N0 g_a
  show Go _ _ _ _ _ _ _ (T2.setTop (mkF m 9 #[.val (.ref a), .val (.int x1), .val (.ref b)] []))
  refine Go.of (fun _ q => XS.aloadN X2.here hx rfl (hb hby d1_9) rfl rfl q) ?_
  show Go _ _ _ _ _ _ _ (T2.setTop (mkF m 10 #[.val (.ref a), .val (.int x1), .val (.ref b)] [(.ref a)]))
  refine Go.of (fun _ q => XS.aloadN X2.here hx rfl (hb hby d1_10) rfl rfl q) ?_
  show Go _ _ _ _ _ _ _ (T2.setTop (mkF m 11 #[.val (.ref a), .val (.int x1), .val (.ref b)] [(.ref b), (.ref a)]))
  obtain ⟨T3, h3, X3, e3, W3, st3⟩ := putF X2 hx hZ hown (host := "") (Or.inl (hw _ (List.mem_of_getElem? (i := 12) rfl))) Via.refl e2 F_a_bytes E_a (Or.inr ⟨(hw _ (List.mem_of_getElem? (i := 13) rfl)), rfl, hnm⟩) (hw _ (List.mem_of_getElem? (i := 2) rfl)) (ty := (.array .byte)) (by decide) rfl rfl (g := (mkF m 11 #[.val (.ref a), .val (.int x1), .val (.ref b)] [(.ref b), (.ref a)])) rfl rfl (hb hby d1_11)
  refine Go.of st3 ?_
  have Zs := Nat.le_trans Zs (Nat.le_of_eq W3.size.symm)
  have Kp := Kp.wr W3 (Or.inl (List.mem_of_getElem? (i := 0) rfl))
  have E_a := E_a.wr W3
  have F_a_tree := F_a_tree.other W3 (Or.inr (slot_ne (Or.inr (hw _ (List.mem_of_getElem? (i := 11) rfl))) (Or.inr (hw _ (List.mem_of_getElem? (i := 13) rfl))) (by decide) (t := .int) (t' := (.array .byte)) (by decide) (by decide)))
  have F_a_bytes := F_a_bytes.same W3
  have F_a_hash := F_a_hash.other W3 (Or.inr (slot_ne (Or.inr (hw _ (List.mem_of_getElem? (i := 28) rfl))) (Or.inr (hw _ (List.mem_of_getElem? (i := 13) rfl))) (by decide) (t := .int) (t' := (.array .byte)) (by decide) (by decide)))
  have A_b := A_b.other W3 ne_b_a
  have E_b := E_b.wr W3
  have N3 := Fr.snoc X3 N2 g_a
  show Go _ _ _ _ _ _ _ (T3.setTop (mkF m 14 #[.val (.ref a), .val (.int x1), .val (.ref b)] []))
  refine Go.of (fun _ q => XS.aloadN X3.here hx rfl (hb hby d1_14) rfl rfl q) ?_
  show Go _ _ _ _ _ _ _ (T3.setTop (mkF m 15 #[.val (.ref a), .val (.int x1), .val (.ref b)] [(.ref a)]))
  refine Go.of (fun _ q => XS.bipush X3.here hx rfl (hb hby d1_15) q) ?_
  show Go _ _ _ _ _ _ _ (T3.setTop (mkF m 17 #[.val (.ref a), .val (.int x1), .val (.ref b)] [(.int (31 : Int32)), (.ref a)]))
  refine Go.of (fun _ q => XS.iloadN X3.here hx rfl (hb hby d1_17) rfl q) ?_
  show Go _ _ _ _ _ _ _ (T3.setTop (mkF m 18 #[.val (.ref a), .val (.int x1), .val (.ref b)] [(.int x1), (.int (31 : Int32)), (.ref a)]))
  refine Go.of (fun _ q => XS.imul X3.here hx rfl (hb hby d1_18) rfl q) ?_
  show Go _ _ _ _ _ _ _ (T3.setTop (mkF m 19 #[.val (.ref a), .val (.int x1), .val (.ref b)] [(.int ((31 : Int32) * x1)), (.ref a)]))
  refine Go.of (fun _ q => XS.aloadN X3.here hx rfl (hb hby d1_19) rfl rfl q) ?_
  show Go _ _ _ _ _ _ _ (T3.setTop (mkF m 20 #[.val (.ref a), .val (.int x1), .val (.ref b)] [(.ref b), (.int ((31 : Int32) * x1)), (.ref a)]))
  refine Go.static X3 hx hZ (y := (⟨"java/util/Arrays", "hashCode", "([B)I"⟩ : MethodName)) (argsL := [(.ref b)]) hown (hw _ (List.mem_of_getElem? (i := 14) rfl)) (hw _ (List.mem_of_getElem? (i := 15) rfl)) (hw _ (List.mem_of_getElem? (i := 16) rfl)) (hw _ (List.mem_of_getElem? (i := 17) rfl)) (by decide) 2 e3 (rm3_3 l Z a0 hw b kb gb h3 n0 Zs A_b E_b) (by decide) (by decide) (by decide) (by decide) (g := (mkF m 20 #[.val (.ref a), .val (.int x1), .val (.ref b)] [(.ref b), (.int ((31 : Int32) * x1)), (.ref a)])) rfl (by rw [hml]; rfl) (rest := [(.int ((31 : Int32) * x1)), (.ref a)]) (lenOf pd1 rfl) rfl (by show 2 * 0 + _ ≤ _; exact Nat.le_of_eq rfl) (hb hby d1_20) ?_
  intro T4 v4 L4 X4 q4
  obtain ⟨z1, rfl, Nq4, e4⟩ := q4
  have N4 := Fr.app N3 Nq4
  show Go _ _ _ _ _ _ _ (T4.setTop (mkF m 23 #[.val (.ref a), .val (.int x1), .val (.ref b)] [(.int z1), (.int ((31 : Int32) * x1)), (.ref a)]))
  refine Go.of (fun _ q => XS.iadd X4.here hx rfl (hb hby d1_23) rfl q) ?_
  show Go _ _ _ _ _ _ _ (T4.setTop (mkF m 24 #[.val (.ref a), .val (.int x1), .val (.ref b)] [(.int (((31 : Int32) * x1) + z1)), (.ref a)]))
  obtain ⟨T5, h5, X5, e5, W5, st5⟩ := putF X4 hx hZ hown (host := "") (Or.inl (hw _ (List.mem_of_getElem? (i := 27) rfl))) Via.refl e4 F_a_hash E_a (Or.inr ⟨(hw _ (List.mem_of_getElem? (i := 28) rfl)), rfl, hnm⟩) (hw _ (List.mem_of_getElem? (i := 2) rfl)) (ty := .int) (by decide) rfl rfl (g := (mkF m 24 #[.val (.ref a), .val (.int x1), .val (.ref b)] [(.int (((31 : Int32) * x1) + z1)), (.ref a)])) rfl rfl (hb hby d1_24)
  refine Go.of st5 ?_
  have Zs := Nat.le_trans Zs (Nat.le_of_eq W5.size.symm)
  have Kp := Kp.wr W5 (Or.inl (List.mem_of_getElem? (i := 0) rfl))
  have E_a := E_a.wr W5
  have F_a_tree := F_a_tree.other W5 (Or.inr (slot_ne (Or.inr (hw _ (List.mem_of_getElem? (i := 11) rfl))) (Or.inr (hw _ (List.mem_of_getElem? (i := 28) rfl))) (by decide) (t := .int) (t' := .int) (by decide) (by decide)))
  have F_a_bytes := F_a_bytes.other W5 (Or.inr (slot_ne (Or.inr (hw _ (List.mem_of_getElem? (i := 13) rfl))) (Or.inr (hw _ (List.mem_of_getElem? (i := 28) rfl))) (by decide) (t := (.array .byte)) (t' := .int) (by decide) (by decide)))
  have F_a_hash := F_a_hash.same W5
  have A_b := A_b.other W5 ne_b_a
  have E_b := E_b.wr W5
  have N5 := Fr.snoc X5 N4 g_a
  show Go _ _ _ _ _ _ _ (T5.setTop (mkF m 27 #[.val (.ref a), .val (.int x1), .val (.ref b)] []))
  refine Go.retV X5 hx hlk hret (hb hby d1_27) (by decide) (by decide) ?_
  rw [e5]
  exact ⟨rfl, N5, Kp, E_a, F_a_bytes⟩
theorem ef_6_3 (m : MethodId) (a : Addr) : entryFrame m #[(.ref a)] 1 = mkF m 0 #[.val (.ref a)] [] := by first | (simp [entryFrame, mkF, argsToLocals, Value.category]; done) | rfl
def Q6_3 (Z : State) (a : Addr) (b : Addr) (kb : ClassId) (gb : Nat → Int32) (h0 : Heap) (n0 : Nat) (v : Option Value) (h : Heap) (L : List Loc) : Prop := v = some (.int (0 : Int32)) ∧ Fr n0 L ∧ h = h0
set_option maxRecDepth 65536 in
set_option maxHeartbeats 40000000 in
theorem rm6_3 (l : Launch) (Z : State) (a0 : Array Value) (hw : ∀ d ∈ tables_1, d.before a0 Z = true) (a : Addr) (b : Addr) (kb : ClassId) (gb : Nat → Int32) (h0 : Heap) (n0 : Nat) (Zs : n0 ≤ h0.size) (F_a_bytes : Fld Z h0 a "com/example/latchwork/latchwork/Key" "bytes" "[B" (.ref b)) (A_b : AF Z h0 b kb .byte 3 (fun i => .int (gb i))) :
    Con l Z (⟨"com/example/latchwork/latchwork/Key", "isEnd", "()Z"⟩ : MethodName) prog_25_method_5_code 1 (some .boolean) ({ frames := 0, cells := 0, slots := 0, locals := 0 } : Room) #[(.ref a)] h0 (Q6_3 Z a b kb gb h0 n0) := by
  refine Con.intro (plainFor_of_name pn2) (fun m => ef_6_3 m a) ?_
  intro p e s m below meth c s₁ hx hby hml0 hZ hown hnm hret hlk X0 e0
  have hml : c.maxLocals = 1 := hml0
  have N0 := Fr.nil n0
  have Kp : Keep h0 h0 [] := Keep.refl h0 _
  show Go _ _ _ _ _ _ _ (s₁.setTop (mkF m 0 #[.val (.ref a)] []))
  refine Go.of (fun _ q => XS.aloadN X0.here hx rfl (hb hby d6_0) rfl rfl q) ?_
  show Go _ _ _ _ _ _ _ (s₁.setTop (mkF m 1 #[.val (.ref a)] [(.ref a)]))
  obtain ⟨T1, X1, e1, st1⟩ := getF X0 hx hZ hown (host := "") (Or.inl (hw _ (List.mem_of_getElem? (i := 12) rfl))) Via.refl e0 F_a_bytes (g := (mkF m 1 #[.val (.ref a)] [(.ref a)])) rfl rfl (hb hby d6_1)
  refine Go.of st1 ?_
  show Go _ _ _ _ _ _ _ (T1.setTop (mkF m 4 #[.val (.ref a)] [(.ref b)]))
  refine Go.of (fun _ q => AF.length A_b X1 hx hZ e1 rfl (g := (mkF m 4 #[.val (.ref a)] [(.ref b)])) rfl rfl (hb hby d6_4) q) ?_
  show Go _ _ _ _ _ _ _ (T1.setTop (mkF m 5 #[.val (.ref a)] [(.int (3 : Int32))]))
  refine Go.of (fun _ q => XS.ifYes X1.here hx rfl (pc0 := 5) (pc' := 12) rfl (hb hby d6_5) rfl ((if0 _ _).trans (feq (by decide)).2) (by decide) (by decide) q) ?_
  show Go _ _ _ _ _ _ _ (T1.setTop (mkF m 12 #[.val (.ref a)] []))
  refine Go.of (fun _ q => XS.iconst X1.here hx rfl (hb hby d6_12) q) ?_
  show Go _ _ _ _ _ _ _ (T1.setTop (mkF m 13 #[.val (.ref a)] [(.int (0 : Int32))]))
  refine Go.retN X1 hx hlk (t := .boolean) hret (by simp) (hb hby d6_13) rfl (by decide) (by decide) ?_
  rw [e1]
  exact ⟨rfl, N0, rfl⟩
theorem pd3 : parseMethodDescriptor "(I[B)V" = some ⟨[.int, (.array .byte)], none⟩ := by decide +kernel
theorem d7_0 : decode prog_25_method_2_code 0 = .ok (.new 8, 3) := by decide +kernel
theorem d7_3 : decode prog_25_method_2_code 3 = .ok (.dup, 1) := by decide +kernel
theorem d7_4 : decode prog_25_method_2_code 4 = .ok (.iload_n 0, 1) := by decide +kernel
theorem d7_5 : decode prog_25_method_2_code 5 = .ok (.iconst 0, 1) := by decide +kernel
theorem d7_6 : decode prog_25_method_2_code 6 = .ok (.newarray .byte, 2) := by decide +kernel
theorem d7_8 : decode prog_25_method_2_code 8 = .ok (.invokespecial 26, 3) := by decide +kernel
theorem d7_11 : decode prog_25_method_2_code 11 = .ok (.areturn, 1) := by decide +kernel
theorem ef_7 (m : MethodId) (x1 : Int32) : entryFrame m #[(.int x1)] 1 = mkF m 0 #[.val (.int x1)] [] := by first | (simp [entryFrame, mkF, argsToLocals, Value.category]; done) | rfl
def Q7 (Z : State) (x1 : Int32) (h0 : Heap) (n0 : Nat) (v : Option Value) (h : Heap) (L : List Loc) : Prop := ∃ a : Addr, ∃ b : Addr, ∃ kb : ClassId, ∃ gb : Nat → Int32, v = some (.ref a) ∧ Fr n0 L ∧ Keep h0 h [] ∧ h0.size ≤ a ∧ h0.size ≤ b ∧ a ≠ b ∧ Exa Z h a "com/example/latchwork/latchwork/Key" ∧ Fld Z h a "com/example/latchwork/latchwork/Key" "bytes" "[B" (.ref b) ∧ AF Z h b kb .byte 0 (fun i => .int (gb i))
set_option maxRecDepth 65536 in
set_option maxHeartbeats 40000000 in
theorem rm7 (l : Launch) (Z : State) (a0 : Array Value) (hw : ∀ d ∈ tables_1, d.before a0 Z = true) (x1 : Int32) (h0 : Heap) (n0 : Nat) (Zs : n0 ≤ h0.size)  :
    Con l Z (⟨"com/example/latchwork/latchwork/Key", "end", "(I)Lcom/example/latchwork/latchwork/Key;"⟩ : MethodName) prog_25_method_2_code 1 (some (.object "com/example/latchwork/latchwork/Key")) ({ frames := 2, cells := 2, slots := 3, locals := 29 } : Room) #[(.int x1)] h0 (Q7 Z x1 h0 n0) := by
  refine Con.intro (plainFor_of_name pn2) (fun m => ef_7 m x1) ?_
  intro p e s m below meth c s₁ hx hby hml0 hZ hown hnm hret hlk X0 e0
  have hml : c.maxLocals = 1 := hml0
  have N0 := Fr.nil n0
  have Kp : Keep h0 h0 [] := Keep.refl h0 _
  show Go _ _ _ _ _ _ _ (s₁.setTop (mkF m 0 #[.val (.int x1)] []))
  obtain ⟨T1, h1, X1, e1, E1, A1, D1, -, st1⟩ := newO X0 hx hZ hown (hw _ (List.mem_of_getElem? (i := 37) rfl)) (hw _ (List.mem_of_getElem? (i := 2) rfl)) (hw _ (List.mem_of_getElem? (i := 3) rfl)) e0 (g := (mkF m 0 #[.val (.int x1)] [])) rfl (hb hby d7_0) (by decide) (by decide)
  obtain ⟨a, g1⟩ : ∃ z, z = h0.size := ⟨_, rfl⟩
  rw [← g1] at A1 D1 st1
  refine Go.of st1 ?_
  have g_a : n0 ≤ a := Nat.le_trans Zs (Nat.le_of_eq g1.symm)
  have sz_a : h0.size ≤ a := Nat.le_trans Kp.1 (Nat.le_of_eq g1.symm)
  have Zs := Nat.le_trans Zs E1.1
  have Kp := Kp.ext E1
  have E_a := A1
  have F_a_tree : Fld Z h1 a "com/example/latchwork/latchwork/Key" "tree" "I" (.int (0 : Int32)) := D1 (Or.inr (hw _ (List.mem_of_getElem? (i := 11) rfl))) (ty := .int) (by decide)
  have F_a_bytes : Fld Z h1 a "com/example/latchwork/latchwork/Key" "bytes" "[B" .null := D1 (Or.inr (hw _ (List.mem_of_getElem? (i := 13) rfl))) (ty := (.array .byte)) (by decide)
  have F_a_hash : Fld Z h1 a "com/example/latchwork/latchwork/Key" "hash" "I" (.int (0 : Int32)) := D1 (Or.inr (hw _ (List.mem_of_getElem? (i := 28) rfl))) (ty := .int) (by decide)
  show Go _ _ _ _ _ _ _ (T1.setTop (mkF m 3 #[.val (.int x1)] [(.ref a)]))
  refine Go.of (fun _ q => XS.dup X1.here hx rfl (hb hby d7_3) rfl rfl q) ?_
  show Go _ _ _ _ _ _ _ (T1.setTop (mkF m 4 #[.val (.int x1)] [(.ref a), (.ref a)]))
  refine Go.of (fun _ q => XS.iloadN X1.here hx rfl (hb hby d7_4) rfl q) ?_
  show Go _ _ _ _ _ _ _ (T1.setTop (mkF m 5 #[.val (.int x1)] [(.int x1), (.ref a), (.ref a)]))
  refine Go.of (fun _ q => XS.iconst X1.here hx rfl (hb hby d7_5) q) ?_
  show Go _ _ _ _ _ _ _ (T1.setTop (mkF m 6 #[.val (.int x1)] [(.int (0 : Int32)), (.int x1), (.ref a), (.ref a)]))
  obtain ⟨T2, h2, k2, X2, e2, E2, A2, B2, st2⟩ := newPE X1 hx hZ (hw _ (List.mem_of_getElem? (i := 0) rfl)) e1 (g := (mkF m 6 #[.val (.int x1)] [(.int (0 : Int32)), (.int x1), (.ref a), (.ref a)])) rfl (hb hby d7_6) rfl (by decide) (cap := 0) (by decide) (by decide) (by decide) (by decide) (ad := "[B") (by decide)
  obtain ⟨b, g2⟩ : ∃ z, z = h1.size := ⟨_, rfl⟩
  rw [← g2] at A2 B2 st2
  refine Go.of st2 ?_
  have g_b : n0 ≤ b := Nat.le_trans Zs (Nat.le_of_eq g2.symm)
  have sz_b : h0.size ≤ b := Nat.le_trans Kp.1 (Nat.le_of_eq g2.symm)
  have ne_a_b : a ≠ b := Nat.ne_of_lt (Nat.lt_of_lt_of_le E_a.lt (Nat.le_of_eq g2.symm))
  have Zs := Nat.le_trans Zs E2.1
  have Kp := Kp.ext E2
  have E_a := E_a.ext E2
  have F_a_tree := F_a_tree.ext E2
  have F_a_bytes := F_a_bytes.ext E2
  have F_a_hash := F_a_hash.ext E2
  have E_b := B2
  have A_b : AF Z h2 b k2 .byte 0 (fun i => .int ((fun _ => (0 : Int32)) i)) := AF.new A2 (by decide) rfl rfl
  show Go _ _ _ _ _ _ _ (T2.setTop (mkF m 8 #[.val (.int x1)] [(.ref b), (.int x1), (.ref a), (.ref a)]))
  refine Go.special X2 hx hZ (y := (⟨"com/example/latchwork/latchwork/Key", "<init>", "(I[B)V"⟩ : MethodName)) (a := a) (argsL := [(.int x1), (.ref b)]) rfl hown (hw _ (List.mem_of_getElem? (i := 38) rfl)) (hw _ (List.mem_of_getElem? (i := 5) rfl)) (hw _ (List.mem_of_getElem? (i := 3) rfl)) (hw _ (List.mem_of_getElem? (i := 6) rfl)) (by decide) 1 e2 (rm1_0 l Z a0 hw a x1 b k2 (fun _ => (0 : Int32)) (0 : Int32) .null (0 : Int32) h2 n0 Zs E_a F_a_tree F_a_bytes F_a_hash g_a A_b E_b (Ne.symm ne_a_b)) (by decide) (by decide) (by decide) (by decide) (g := (mkF m 8 #[.val (.int x1)] [(.ref b), (.int x1), (.ref a), (.ref a)])) rfl (by rw [hml]; rfl) (rest := [(.ref a)]) (lenOf pd3 rfl) rfl (by show 2 * 0 + _ ≤ _; exact Nat.le_of_eq rfl) (hb hby d7_8) ?_
  intro T3 v3 L3 X3 q3
  obtain ⟨rfl, Nq3, K3, f3_0, f3_1⟩ := q3
  have N3 := Fr.app N0 Nq3
  have Zs := Nat.le_trans Zs K3.1
  have Kp := Kp.trans K3 (allS (P := fun x => x ∈ [] ∨ h0.size ≤ x) (Or.inr sz_a) all0)
  have E_a := E_a.keep K3
  have E_b := E_b.keep K3
  have A_b := A_b.keep K3 (ninS (Ne.symm ne_a_b) nin0)
  have F_a_bytes := f3_1
  show Go _ _ _ _ _ _ _ (T3.setTop (mkF m 11 #[.val (.int x1)] [(.ref a)]))
  refine Go.retA X3 hx hlk hret rfl rfl (hb hby d7_11) (by decide) (by decide) ?_
  exact ⟨a, b, k2, (fun _ => (0 : Int32)), rfl, N3, Kp, sz_a, sz_b, ne_a_b, E_a, F_a_bytes, A_b⟩
theorem pd4 : parseMethodDescriptor "()Z" = some ⟨[], some .boolean⟩ := by decide +kernel
theorem pd5 : parseMethodDescriptor "(I)Lcom/example/latchwork/latchwork/Key;" = some ⟨[.int], some (.object "com/example/latchwork/latchwork/Key")⟩ := by decide +kernel
theorem pn3 : plainName "com/example/latchwork/latchwork/KeyIsEndPinLaw" = true := by first | (simp [plainName, overriddenIn]; done) | decide +kernel
theorem ef_0 (m : MethodId) (x1 : Int32) (x2 : Int32) (x3 : Int32) (x4 : Int32) (x5 : Int32) : entryFrame m #[(.int x1), (.int x2), (.int x3), (.int x4), (.int x5)] maxLocals = mkF m 0 #[.val (.int x1), .val (.int x2), .val (.int x3), .val (.int x4), .val (.int x5), .unset, .unset, .unset, .unset, .unset, .unset, .unset] [] := by first | (simp [entryFrame, mkF, argsToLocals, Value.category, maxLocals]; done) | rfl
def Q0 (Z : State) (x1 : Int32) (x2 : Int32) (x3 : Int32) (x4 : Int32) (x5 : Int32) (h0 : Heap) (n0 : Nat) (v : Option Value) (h : Heap) (L : List Loc) : Prop := v = some (.int (1 : Int32)) ∧ Fr n0 L
set_option maxRecDepth 65536 in
set_option maxHeartbeats 40000000 in
theorem rm0 (l : Launch) (Z : State) (a0 : Array Value) (hw : ∀ d ∈ tables_1, d.before a0 Z = true) (x1 : Int32) (x2 : Int32) (x3 : Int32) (x4 : Int32) (x5 : Int32) (h0 : Heap) (n0 : Nat) (Zs : n0 ≤ h0.size)  :
    Con l Z x code maxLocals ret room_1 #[(.int x1), (.int x2), (.int x3), (.int x4), (.int x5)] h0 (Q0 Z x1 x2 x3 x4 x5 h0 n0) := by
  refine Con.intro (plainFor_of_name pn3) (fun m => ef_0 m x1 x2 x3 x4 x5) ?_
  intro p e s m below meth c s₁ hx hby hml0 hZ hown hnm hret hlk X0 e0
  have hml : c.maxLocals = 12 := hml0
  have N0 := Fr.nil n0
  have Kp : Keep h0 h0 [] := Keep.refl h0 _
  show Go _ _ _ _ _ _ _ (s₁.setTop (mkF m 0 #[.val (.int x1), .val (.int x2), .val (.int x3), .val (.int x4), .val (.int x5), .unset, .unset, .unset, .unset, .unset, .unset, .unset] []))
  refine Go.of (fun _ q => XS.iloadN X0.here hx rfl (hb hby at_0) rfl q) ?_
  show Go _ _ _ _ _ _ _ (s₁.setTop (mkF m 1 #[.val (.int x1), .val (.int x2), .val (.int x3), .val (.int x4), .val (.int x5), .unset, .unset, .unset, .unset, .unset, .unset, .unset] [(.int x2)]))
  refine Go.of (fun _ q => XS.iconst X0.here hx rfl (hb hby at_1) q) ?_
  show Go _ _ _ _ _ _ _ (s₁.setTop (mkF m 2 #[.val (.int x1), .val (.int x2), .val (.int x3), .val (.int x4), .val (.int x5), .unset, .unset, .unset, .unset, .unset, .unset, .unset] [(.int (3 : Int32)), (.int x2)]))
  refine Go.of (fun _ q => XS.iand X0.here hx rfl (hb hby at_2) rfl q) ?_
  rcases own_four x2 with q3 | q3 | q3 | q3
  · rw [q3]
    show Go _ _ _ _ _ _ _ (s₁.setTop (mkF m 3 #[.val (.int x1), .val (.int x2), .val (.int x3), .val (.int x4), .val (.int x5), .unset, .unset, .unset, .unset, .unset, .unset, .unset] [(.int (0 : Int32))]))
    refine Go.of (fun _ q => XS.istore X0.here hx rfl (hb hby at_3) rfl (l' := #[.val (.int x1), .val (.int x2), .val (.int x3), .val (.int x4), .val (.int x5), .val (.int (0 : Int32)), .unset, .unset, .unset, .unset, .unset, .unset]) rfl q) ?_
    show Go _ _ _ _ _ _ _ (s₁.setTop (mkF m 5 #[.val (.int x1), .val (.int x2), .val (.int x3), .val (.int x4), .val (.int x5), .val (.int (0 : Int32)), .unset, .unset, .unset, .unset, .unset, .unset] []))
    refine Go.of (fun _ q => XS.iload X0.here hx rfl (hb hby at_5) rfl q) ?_
    show Go _ _ _ _ _ _ _ (s₁.setTop (mkF m 7 #[.val (.int x1), .val (.int x2), .val (.int x3), .val (.int x4), .val (.int x5), .val (.int (0 : Int32)), .unset, .unset, .unset, .unset, .unset, .unset] [(.int (0 : Int32))]))
    obtain ⟨T1, h1, k1, X1, e1, E1, A1, B1, st1⟩ := newPE X0 hx hZ (hw _ (List.mem_of_getElem? (i := 0) rfl)) e0 (g := (mkF m 7 #[.val (.int x1), .val (.int x2), .val (.int x3), .val (.int x4), .val (.int x5), .val (.int (0 : Int32)), .unset, .unset, .unset, .unset, .unset, .unset] [(.int (0 : Int32))])) rfl (hb hby at_7) rfl (by decide) (cap := 0) (by decide) (by decide) (by decide) (by decide) (ad := "[B") (by decide)
    obtain ⟨b, g1⟩ : ∃ z, z = h0.size := ⟨_, rfl⟩
    rw [← g1] at A1 B1 st1
    refine Go.of st1 ?_
    have g_b : n0 ≤ b := Nat.le_trans Zs (Nat.le_of_eq g1.symm)
    have sz_b : h0.size ≤ b := Nat.le_trans Kp.1 (Nat.le_of_eq g1.symm)
    have Zs := Nat.le_trans Zs E1.1
    have Kp := Kp.ext E1
    have E_b := B1
    have A_b : AF Z h1 b k1 .byte 0 (fun i => .int ((fun _ => (0 : Int32)) i)) := AF.new A1 (by decide) rfl rfl
    show Go _ _ _ _ _ _ _ (T1.setTop (mkF m 9 #[.val (.int x1), .val (.int x2), .val (.int x3), .val (.int x4), .val (.int x5), .val (.int (0 : Int32)), .unset, .unset, .unset, .unset, .unset, .unset] [(.ref b)]))
    refine Go.of (fun _ q => XS.astore X1.here hx rfl (hb hby at_9) rfl rfl (l' := #[.val (.int x1), .val (.int x2), .val (.int x3), .val (.int x4), .val (.int x5), .val (.int (0 : Int32)), .val (.ref b), .unset, .unset, .unset, .unset, .unset]) rfl q) ?_
    show Go _ _ _ _ _ _ _ (T1.setTop (mkF m 11 #[.val (.int x1), .val (.int x2), .val (.int x3), .val (.int x4), .val (.int x5), .val (.int (0 : Int32)), .val (.ref b), .unset, .unset, .unset, .unset, .unset] []))
    refine Go.of (fun _ q => XS.iload X1.here hx rfl (hb hby at_11) rfl q) ?_
    show Go _ _ _ _ _ _ _ (T1.setTop (mkF m 13 #[.val (.int x1), .val (.int x2), .val (.int x3), .val (.int x4), .val (.int x5), .val (.int (0 : Int32)), .val (.ref b), .unset, .unset, .unset, .unset, .unset] [(.int (0 : Int32))]))
    refine Go.of (fun _ q => XS.ifYes X1.here hx rfl (pc0 := 13) (pc' := 22) rfl (hb hby at_13) rfl ((if0 _ _).trans (flt (by decide)).2.2.2) (by decide) (by decide) q) ?_
    show Go _ _ _ _ _ _ _ (T1.setTop (mkF m 22 #[.val (.int x1), .val (.int x2), .val (.int x3), .val (.int x4), .val (.int x5), .val (.int (0 : Int32)), .val (.ref b), .unset, .unset, .unset, .unset, .unset] []))
    refine Go.of (fun _ q => XS.iload X1.here hx rfl (hb hby at_22) rfl q) ?_
    show Go _ _ _ _ _ _ _ (T1.setTop (mkF m 24 #[.val (.int x1), .val (.int x2), .val (.int x3), .val (.int x4), .val (.int x5), .val (.int (0 : Int32)), .val (.ref b), .unset, .unset, .unset, .unset, .unset] [(.int (0 : Int32))]))
    refine Go.of (fun _ q => XS.iconst X1.here hx rfl (hb hby at_24) q) ?_
    show Go _ _ _ _ _ _ _ (T1.setTop (mkF m 25 #[.val (.int x1), .val (.int x2), .val (.int x3), .val (.int x4), .val (.int x5), .val (.int (0 : Int32)), .val (.ref b), .unset, .unset, .unset, .unset, .unset] [(.int (1 : Int32)), (.int (0 : Int32))]))
    refine Go.of (fun _ q => XS.icmpYes X1.here hx rfl (pc0 := 25) (pc' := 34) rfl (hb hby at_25) rfl (flt (by decide)).2.2.2 (by decide) (by decide) q) ?_
    show Go _ _ _ _ _ _ _ (T1.setTop (mkF m 34 #[.val (.int x1), .val (.int x2), .val (.int x3), .val (.int x4), .val (.int x5), .val (.int (0 : Int32)), .val (.ref b), .unset, .unset, .unset, .unset, .unset] []))
    refine Go.of (fun _ q => XS.iload X1.here hx rfl (hb hby at_34) rfl q) ?_
    show Go _ _ _ _ _ _ _ (T1.setTop (mkF m 36 #[.val (.int x1), .val (.int x2), .val (.int x3), .val (.int x4), .val (.int x5), .val (.int (0 : Int32)), .val (.ref b), .unset, .unset, .unset, .unset, .unset] [(.int (0 : Int32))]))
    refine Go.of (fun _ q => XS.iconst X1.here hx rfl (hb hby at_36) q) ?_
    show Go _ _ _ _ _ _ _ (T1.setTop (mkF m 37 #[.val (.int x1), .val (.int x2), .val (.int x3), .val (.int x4), .val (.int x5), .val (.int (0 : Int32)), .val (.ref b), .unset, .unset, .unset, .unset, .unset] [(.int (2 : Int32)), (.int (0 : Int32))]))
    refine Go.of (fun _ q => XS.icmpYes X1.here hx rfl (pc0 := 37) (pc' := 47) rfl (hb hby at_37) rfl (flt (by decide)).2.2.2 (by decide) (by decide) q) ?_
    show Go _ _ _ _ _ _ _ (T1.setTop (mkF m 47 #[.val (.int x1), .val (.int x2), .val (.int x3), .val (.int x4), .val (.int x5), .val (.int (0 : Int32)), .val (.ref b), .unset, .unset, .unset, .unset, .unset] []))
    obtain ⟨T2, h2, X2, e2, E2, A2, D2, -, st2⟩ := newO X1 hx hZ hown (hw _ (List.mem_of_getElem? (i := 1) rfl)) (hw _ (List.mem_of_getElem? (i := 2) rfl)) (hw _ (List.mem_of_getElem? (i := 3) rfl)) e1 (g := (mkF m 47 #[.val (.int x1), .val (.int x2), .val (.int x3), .val (.int x4), .val (.int x5), .val (.int (0 : Int32)), .val (.ref b), .unset, .unset, .unset, .unset, .unset] [])) rfl (hb hby at_47) (by decide) (by decide)
    obtain ⟨a, g2⟩ : ∃ z, z = h1.size := ⟨_, rfl⟩
    rw [← g2] at A2 D2 st2
    refine Go.of st2 ?_
    have g_a : n0 ≤ a := Nat.le_trans Zs (Nat.le_of_eq g2.symm)
    have sz_a : h0.size ≤ a := Nat.le_trans Kp.1 (Nat.le_of_eq g2.symm)
    have ne_b_a : b ≠ a := Nat.ne_of_lt (Nat.lt_of_lt_of_le E_b.lt (Nat.le_of_eq g2.symm))
    have Zs := Nat.le_trans Zs E2.1
    have Kp := Kp.ext E2
    have E_b := E_b.ext E2
    have A_b := A_b.ext E2
    have E_a := A2
    have F_a_tree : Fld Z h2 a "com/example/latchwork/latchwork/Key" "tree" "I" (.int (0 : Int32)) := D2 (Or.inr (hw _ (List.mem_of_getElem? (i := 11) rfl))) (ty := .int) (by decide)
    have F_a_bytes : Fld Z h2 a "com/example/latchwork/latchwork/Key" "bytes" "[B" .null := D2 (Or.inr (hw _ (List.mem_of_getElem? (i := 13) rfl))) (ty := (.array .byte)) (by decide)
    have F_a_hash : Fld Z h2 a "com/example/latchwork/latchwork/Key" "hash" "I" (.int (0 : Int32)) := D2 (Or.inr (hw _ (List.mem_of_getElem? (i := 28) rfl))) (ty := .int) (by decide)
    show Go _ _ _ _ _ _ _ (T2.setTop (mkF m 50 #[.val (.int x1), .val (.int x2), .val (.int x3), .val (.int x4), .val (.int x5), .val (.int (0 : Int32)), .val (.ref b), .unset, .unset, .unset, .unset, .unset] [(.ref a)]))
    refine Go.of (fun _ q => XS.dup X2.here hx rfl (hb hby at_50) rfl rfl q) ?_
    show Go _ _ _ _ _ _ _ (T2.setTop (mkF m 51 #[.val (.int x1), .val (.int x2), .val (.int x3), .val (.int x4), .val (.int x5), .val (.int (0 : Int32)), .val (.ref b), .unset, .unset, .unset, .unset, .unset] [(.ref a), (.ref a)]))
    refine Go.of (fun _ q => XS.iloadN X2.here hx rfl (hb hby at_51) rfl q) ?_
    show Go _ _ _ _ _ _ _ (T2.setTop (mkF m 52 #[.val (.int x1), .val (.int x2), .val (.int x3), .val (.int x4), .val (.int x5), .val (.int (0 : Int32)), .val (.ref b), .unset, .unset, .unset, .unset, .unset] [(.int x1), (.ref a), (.ref a)]))
    refine Go.of (fun _ q => XS.aload X2.here hx rfl (hb hby at_52) rfl rfl q) ?_
    show Go _ _ _ _ _ _ _ (T2.setTop (mkF m 54 #[.val (.int x1), .val (.int x2), .val (.int x3), .val (.int x4), .val (.int x5), .val (.int (0 : Int32)), .val (.ref b), .unset, .unset, .unset, .unset, .unset] [(.ref b), (.int x1), (.ref a), (.ref a)]))
    refine Go.special X2 hx hZ (y := (⟨"com/example/latchwork/latchwork/Key", "<init>", "(I[B)V"⟩ : MethodName)) (a := a) (argsL := [(.int x1), (.ref b)]) rfl hown (hw _ (List.mem_of_getElem? (i := 4) rfl)) (hw _ (List.mem_of_getElem? (i := 5) rfl)) (hw _ (List.mem_of_getElem? (i := 3) rfl)) (hw _ (List.mem_of_getElem? (i := 6) rfl)) (by decide) 1 e2 (rm1_0 l Z a0 hw a x1 b k1 (fun _ => (0 : Int32)) (0 : Int32) .null (0 : Int32) h2 n0 Zs E_a F_a_tree F_a_bytes F_a_hash g_a A_b E_b ne_b_a) (by decide) (by decide) (by decide) (by decide) (g := (mkF m 54 #[.val (.int x1), .val (.int x2), .val (.int x3), .val (.int x4), .val (.int x5), .val (.int (0 : Int32)), .val (.ref b), .unset, .unset, .unset, .unset, .unset] [(.ref b), (.int x1), (.ref a), (.ref a)])) rfl (by rw [hml]; rfl) (rest := [(.ref a)]) (lenOf pd3 rfl) rfl (by show 2 * 0 + _ ≤ _; exact Nat.le_of_eq rfl) (hb hby at_54) ?_
    intro T3 v3 L3 X3 q3
    obtain ⟨rfl, Nq3, K3, f3_0, f3_1⟩ := q3
    have N3 := Fr.app N0 Nq3
    have Zs := Nat.le_trans Zs K3.1
    have Kp := Kp.trans K3 (allS (P := fun x => x ∈ [] ∨ h0.size ≤ x) (Or.inr sz_a) all0)
    have E_b := E_b.keep K3
    have A_b := A_b.keep K3 (ninS ne_b_a nin0)
    have E_a := E_a.keep K3
    have F_a_bytes := f3_1
    show Go _ _ _ _ _ _ _ (T3.setTop (mkF m 57 #[.val (.int x1), .val (.int x2), .val (.int x3), .val (.int x4), .val (.int x5), .val (.int (0 : Int32)), .val (.ref b), .unset, .unset, .unset, .unset, .unset] [(.ref a)]))
    refine Go.of (fun _ q => XS.astore X3.here hx rfl (hb hby at_57) rfl rfl (l' := #[.val (.int x1), .val (.int x2), .val (.int x3), .val (.int x4), .val (.int x5), .val (.int (0 : Int32)), .val (.ref b), .val (.ref a), .unset, .unset, .unset, .unset]) rfl q) ?_
    show Go _ _ _ _ _ _ _ (T3.setTop (mkF m 59 #[.val (.int x1), .val (.int x2), .val (.int x3), .val (.int x4), .val (.int x5), .val (.int (0 : Int32)), .val (.ref b), .val (.ref a), .unset, .unset, .unset, .unset] []))
    refine Go.of (fun _ q => XS.iload X3.here hx rfl (hb hby at_59) rfl q) ?_
    show Go _ _ _ _ _ _ _ (T3.setTop (mkF m 61 #[.val (.int x1), .val (.int x2), .val (.int x3), .val (.int x4), .val (.int x5), .val (.int (0 : Int32)), .val (.ref b), .val (.ref a), .unset, .unset, .unset, .unset] [(.int (0 : Int32))]))
    refine Go.of (fun _ q => XS.ifNo X3.here hx rfl (hb hby at_61) rfl ((if0 _ _).trans (teq rfl).2) q) ?_
    show Go _ _ _ _ _ _ _ (T3.setTop (mkF m 64 #[.val (.int x1), .val (.int x2), .val (.int x3), .val (.int x4), .val (.int x5), .val (.int (0 : Int32)), .val (.ref b), .val (.ref a), .unset, .unset, .unset, .unset] []))
    refine Go.of (fun _ q => XS.iconst X3.here hx rfl (hb hby at_64) q) ?_
    show Go _ _ _ _ _ _ _ (T3.setTop (mkF m 65 #[.val (.int x1), .val (.int x2), .val (.int x3), .val (.int x4), .val (.int x5), .val (.int (0 : Int32)), .val (.ref b), .val (.ref a), .unset, .unset, .unset, .unset] [(.int (1 : Int32))]))
    refine Go.of (fun _ q => XS.goto X3.here hx rfl (pc0 := 65) (pc' := 69) rfl (hb hby at_65) (by decide) (by decide) q) ?_
    show Go _ _ _ _ _ _ _ (T3.setTop (mkF m 69 #[.val (.int x1), .val (.int x2), .val (.int x3), .val (.int x4), .val (.int x5), .val (.int (0 : Int32)), .val (.ref b), .val (.ref a), .unset, .unset, .unset, .unset] [(.int (1 : Int32))]))
    refine Go.of (fun _ q => XS.istore X3.here hx rfl (hb hby at_69) rfl (l' := #[.val (.int x1), .val (.int x2), .val (.int x3), .val (.int x4), .val (.int x5), .val (.int (0 : Int32)), .val (.ref b), .val (.ref a), .val (.int (1 : Int32)), .unset, .unset, .unset]) rfl q) ?_
    show Go _ _ _ _ _ _ _ (T3.setTop (mkF m 71 #[.val (.int x1), .val (.int x2), .val (.int x3), .val (.int x4), .val (.int x5), .val (.int (0 : Int32)), .val (.ref b), .val (.ref a), .val (.int (1 : Int32)), .unset, .unset, .unset] []))
    refine Go.of (fun _ q => XS.aload X3.here hx rfl (hb hby at_71) rfl rfl q) ?_
    show Go _ _ _ _ _ _ _ (T3.setTop (mkF m 73 #[.val (.int x1), .val (.int x2), .val (.int x3), .val (.int x4), .val (.int x5), .val (.int (0 : Int32)), .val (.ref b), .val (.ref a), .val (.int (1 : Int32)), .unset, .unset, .unset] [(.ref a)]))
    refine Go.virtual X3 hx hZ (y := (⟨"com/example/latchwork/latchwork/Key", "isEnd", "()Z"⟩ : MethodName)) (z := (⟨"com/example/latchwork/latchwork/Key", "isEnd", "()Z"⟩ : MethodName)) (a := a) (argsL := []) hown (hw _ (List.mem_of_getElem? (i := 29) rfl)) (hw _ (List.mem_of_getElem? (i := 30) rfl)) (notFace_of_selects (args := #[]) (mvT hZ (hw _ (List.mem_of_getElem? (i := 32) rfl)))) (hw _ (List.mem_of_getElem? (i := 32) rfl)) (hw _ (List.mem_of_getElem? (i := 31) rfl)) (hw _ (List.mem_of_getElem? (i := 3) rfl)) (hw _ (List.mem_of_getElem? (i := 33) rfl)) (by decide) 0 rfl E_a (rm6_0 l Z a0 hw a b k1 (fun _ => (0 : Int32)) T3.heap n0 Zs F_a_bytes A_b) (by decide) (by decide) (by decide) (by decide) (g := (mkF m 73 #[.val (.int x1), .val (.int x2), .val (.int x3), .val (.int x4), .val (.int x5), .val (.int (0 : Int32)), .val (.ref b), .val (.ref a), .val (.int (1 : Int32)), .unset, .unset, .unset] [(.ref a)])) rfl (by rw [hml]; rfl) (rest := []) (lenOf pd4 rfl) rfl (by show 2 * 0 + _ ≤ _; exact Nat.le_of_eq rfl) (hb hby at_73) ?_
    intro T4 v4 L4 X4 q4
    obtain ⟨rfl, Nq4, e4⟩ := q4
    have N4 := Fr.app N3 Nq4
    show Go _ _ _ _ _ _ _ (T4.setTop (mkF m 76 #[.val (.int x1), .val (.int x2), .val (.int x3), .val (.int x4), .val (.int x5), .val (.int (0 : Int32)), .val (.ref b), .val (.ref a), .val (.int (1 : Int32)), .unset, .unset, .unset] [(.int (1 : Int32))]))
    refine Go.of (fun _ q => XS.iload X4.here hx rfl (hb hby at_76) rfl q) ?_
    show Go _ _ _ _ _ _ _ (T4.setTop (mkF m 78 #[.val (.int x1), .val (.int x2), .val (.int x3), .val (.int x4), .val (.int x5), .val (.int (0 : Int32)), .val (.ref b), .val (.ref a), .val (.int (1 : Int32)), .unset, .unset, .unset] [(.int (1 : Int32)), (.int (1 : Int32))]))
    refine Go.of (fun _ q => XS.icmpNo X4.here hx rfl (hb hby at_78) rfl (teq rfl).2 q) ?_
    show Go _ _ _ _ _ _ _ (T4.setTop (mkF m 81 #[.val (.int x1), .val (.int x2), .val (.int x3), .val (.int x4), .val (.int x5), .val (.int (0 : Int32)), .val (.ref b), .val (.ref a), .val (.int (1 : Int32)), .unset, .unset, .unset] []))
    refine Go.of (fun _ q => XS.iconst X4.here hx rfl (hb hby at_81) q) ?_
    show Go _ _ _ _ _ _ _ (T4.setTop (mkF m 82 #[.val (.int x1), .val (.int x2), .val (.int x3), .val (.int x4), .val (.int x5), .val (.int (0 : Int32)), .val (.ref b), .val (.ref a), .val (.int (1 : Int32)), .unset, .unset, .unset] [(.int (1 : Int32))]))
    refine Go.of (fun _ q => XS.goto X4.here hx rfl (pc0 := 82) (pc' := 86) rfl (hb hby at_82) (by decide) (by decide) q) ?_
    show Go _ _ _ _ _ _ _ (T4.setTop (mkF m 86 #[.val (.int x1), .val (.int x2), .val (.int x3), .val (.int x4), .val (.int x5), .val (.int (0 : Int32)), .val (.ref b), .val (.ref a), .val (.int (1 : Int32)), .unset, .unset, .unset] [(.int (1 : Int32))]))
    refine Go.of (fun _ q => XS.istore X4.here hx rfl (hb hby at_86) rfl (l' := #[.val (.int x1), .val (.int x2), .val (.int x3), .val (.int x4), .val (.int x5), .val (.int (0 : Int32)), .val (.ref b), .val (.ref a), .val (.int (1 : Int32)), .val (.int (1 : Int32)), .unset, .unset]) rfl q) ?_
    show Go _ _ _ _ _ _ _ (T4.setTop (mkF m 88 #[.val (.int x1), .val (.int x2), .val (.int x3), .val (.int x4), .val (.int x5), .val (.int (0 : Int32)), .val (.ref b), .val (.ref a), .val (.int (1 : Int32)), .val (.int (1 : Int32)), .unset, .unset] []))
    refine Go.of (fun _ q => XS.iloadN X4.here hx rfl (hb hby at_88) rfl q) ?_
    show Go _ _ _ _ _ _ _ (T4.setTop (mkF m 89 #[.val (.int x1), .val (.int x2), .val (.int x3), .val (.int x4), .val (.int x5), .val (.int (0 : Int32)), .val (.ref b), .val (.ref a), .val (.int (1 : Int32)), .val (.int (1 : Int32)), .unset, .unset] [(.int x1)]))
    refine Go.static X4 hx hZ (y := (⟨"com/example/latchwork/latchwork/Key", "end", "(I)Lcom/example/latchwork/latchwork/Key;"⟩ : MethodName)) (argsL := [(.int x1)]) hown (hw _ (List.mem_of_getElem? (i := 34) rfl)) (hw _ (List.mem_of_getElem? (i := 35) rfl)) (hw _ (List.mem_of_getElem? (i := 3) rfl)) (hw _ (List.mem_of_getElem? (i := 36) rfl)) (by decide) 0 e4 (rm7 l Z a0 hw x1 T3.heap n0 Zs ) (by decide) (by decide) (by decide) (by decide) (g := (mkF m 89 #[.val (.int x1), .val (.int x2), .val (.int x3), .val (.int x4), .val (.int x5), .val (.int (0 : Int32)), .val (.ref b), .val (.ref a), .val (.int (1 : Int32)), .val (.int (1 : Int32)), .unset, .unset] [(.int x1)])) rfl (by rw [hml]; rfl) (rest := []) (lenOf pd5 rfl) rfl (by show 2 * 0 + _ ≤ _; exact Nat.le_of_eq rfl) (hb hby at_89) ?_
    intro T5 v5 L5 X5 q5
    obtain ⟨a2, b2, kb2, gb2, rfl, Nq5, K5, f5_0, f5_1, f5_2, f5_3, f5_4, f5_5⟩ := q5
    have N5 := Fr.app N4 Nq5
    have g_a2 : n0 ≤ a2 := Nat.le_trans Zs f5_0
    have sz_a2 : h0.size ≤ a2 := Nat.le_trans Kp.1 f5_0
    have ne_b_a2 : b ≠ a2 := Nat.ne_of_lt (Nat.lt_of_lt_of_le E_b.lt f5_0)
    have ne_a_a2 : a ≠ a2 := Nat.ne_of_lt (Nat.lt_of_lt_of_le E_a.lt f5_0)
    have g_b2 : n0 ≤ b2 := Nat.le_trans Zs f5_1
    have sz_b2 : h0.size ≤ b2 := Nat.le_trans Kp.1 f5_1
    have ne_b_b2 : b ≠ b2 := Nat.ne_of_lt (Nat.lt_of_lt_of_le E_b.lt f5_1)
    have ne_a_b2 : a ≠ b2 := Nat.ne_of_lt (Nat.lt_of_lt_of_le E_a.lt f5_1)
    have Zs := Nat.le_trans Zs K5.1
    have Kp := Kp.trans K5 all0
    have E_b := E_b.keep K5
    have A_b := A_b.keep K5 nin0
    have E_a := E_a.keep K5
    have F_a_bytes := F_a_bytes.keep K5 nin0
    have E_a2 := f5_3
    have F_a2_bytes := f5_4
    have A_b2 := f5_5
    show Go _ _ _ _ _ _ _ (T5.setTop (mkF m 92 #[.val (.int x1), .val (.int x2), .val (.int x3), .val (.int x4), .val (.int x5), .val (.int (0 : Int32)), .val (.ref b), .val (.ref a), .val (.int (1 : Int32)), .val (.int (1 : Int32)), .unset, .unset] [(.ref a2)]))
    refine Go.of (fun _ q => XS.astore X5.here hx rfl (hb hby at_92) rfl rfl (l' := #[.val (.int x1), .val (.int x2), .val (.int x3), .val (.int x4), .val (.int x5), .val (.int (0 : Int32)), .val (.ref b), .val (.ref a), .val (.int (1 : Int32)), .val (.int (1 : Int32)), .val (.ref a2), .unset]) rfl q) ?_
    show Go _ _ _ _ _ _ _ (T5.setTop (mkF m 94 #[.val (.int x1), .val (.int x2), .val (.int x3), .val (.int x4), .val (.int x5), .val (.int (0 : Int32)), .val (.ref b), .val (.ref a), .val (.int (1 : Int32)), .val (.int (1 : Int32)), .val (.ref a2), .unset] []))
    refine Go.of (fun _ q => XS.aload X5.here hx rfl (hb hby at_94) rfl rfl q) ?_
    show Go _ _ _ _ _ _ _ (T5.setTop (mkF m 96 #[.val (.int x1), .val (.int x2), .val (.int x3), .val (.int x4), .val (.int x5), .val (.int (0 : Int32)), .val (.ref b), .val (.ref a), .val (.int (1 : Int32)), .val (.int (1 : Int32)), .val (.ref a2), .unset] [(.ref a2)]))
    refine Go.virtual X5 hx hZ (y := (⟨"com/example/latchwork/latchwork/Key", "isEnd", "()Z"⟩ : MethodName)) (z := (⟨"com/example/latchwork/latchwork/Key", "isEnd", "()Z"⟩ : MethodName)) (a := a2) (argsL := []) hown (hw _ (List.mem_of_getElem? (i := 29) rfl)) (hw _ (List.mem_of_getElem? (i := 30) rfl)) (notFace_of_selects (args := #[]) (mvT hZ (hw _ (List.mem_of_getElem? (i := 32) rfl)))) (hw _ (List.mem_of_getElem? (i := 32) rfl)) (hw _ (List.mem_of_getElem? (i := 31) rfl)) (hw _ (List.mem_of_getElem? (i := 3) rfl)) (hw _ (List.mem_of_getElem? (i := 33) rfl)) (by decide) 0 rfl E_a2 (rm6_0 l Z a0 hw a2 b2 kb2 gb2 T5.heap n0 Zs F_a2_bytes A_b2) (by decide) (by decide) (by decide) (by decide) (g := (mkF m 96 #[.val (.int x1), .val (.int x2), .val (.int x3), .val (.int x4), .val (.int x5), .val (.int (0 : Int32)), .val (.ref b), .val (.ref a), .val (.int (1 : Int32)), .val (.int (1 : Int32)), .val (.ref a2), .unset] [(.ref a2)])) rfl (by rw [hml]; rfl) (rest := []) (lenOf pd4 rfl) rfl (by show 2 * 0 + _ ≤ _; exact Nat.le_of_eq rfl) (hb hby at_96) ?_
    intro T6 v6 L6 X6 q6
    obtain ⟨rfl, Nq6, e6⟩ := q6
    have N6 := Fr.app N5 Nq6
    show Go _ _ _ _ _ _ _ (T6.setTop (mkF m 99 #[.val (.int x1), .val (.int x2), .val (.int x3), .val (.int x4), .val (.int x5), .val (.int (0 : Int32)), .val (.ref b), .val (.ref a), .val (.int (1 : Int32)), .val (.int (1 : Int32)), .val (.ref a2), .unset] [(.int (1 : Int32))]))
    refine Go.of (fun _ q => XS.istore X6.here hx rfl (hb hby at_99) rfl (l' := #[.val (.int x1), .val (.int x2), .val (.int x3), .val (.int x4), .val (.int x5), .val (.int (0 : Int32)), .val (.ref b), .val (.ref a), .val (.int (1 : Int32)), .val (.int (1 : Int32)), .val (.ref a2), .val (.int (1 : Int32))]) rfl q) ?_
    show Go _ _ _ _ _ _ _ (T6.setTop (mkF m 101 #[.val (.int x1), .val (.int x2), .val (.int x3), .val (.int x4), .val (.int x5), .val (.int (0 : Int32)), .val (.ref b), .val (.ref a), .val (.int (1 : Int32)), .val (.int (1 : Int32)), .val (.ref a2), .val (.int (1 : Int32))] []))
    refine Go.of (fun _ q => XS.iload X6.here hx rfl (hb hby at_101) rfl q) ?_
    show Go _ _ _ _ _ _ _ (T6.setTop (mkF m 103 #[.val (.int x1), .val (.int x2), .val (.int x3), .val (.int x4), .val (.int x5), .val (.int (0 : Int32)), .val (.ref b), .val (.ref a), .val (.int (1 : Int32)), .val (.int (1 : Int32)), .val (.ref a2), .val (.int (1 : Int32))] [(.int (1 : Int32))]))
    refine Go.of (fun _ q => XS.ifNo X6.here hx rfl (hb hby at_103) rfl ((if0 _ _).trans (feq (by decide)).1) q) ?_
    show Go _ _ _ _ _ _ _ (T6.setTop (mkF m 106 #[.val (.int x1), .val (.int x2), .val (.int x3), .val (.int x4), .val (.int x5), .val (.int (0 : Int32)), .val (.ref b), .val (.ref a), .val (.int (1 : Int32)), .val (.int (1 : Int32)), .val (.ref a2), .val (.int (1 : Int32))] []))
    refine Go.of (fun _ q => XS.iload X6.here hx rfl (hb hby at_106) rfl q) ?_
    show Go _ _ _ _ _ _ _ (T6.setTop (mkF m 108 #[.val (.int x1), .val (.int x2), .val (.int x3), .val (.int x4), .val (.int x5), .val (.int (0 : Int32)), .val (.ref b), .val (.ref a), .val (.int (1 : Int32)), .val (.int (1 : Int32)), .val (.ref a2), .val (.int (1 : Int32))] [(.int (1 : Int32))]))
    refine Go.of (fun _ q => XS.ifNo X6.here hx rfl (hb hby at_108) rfl ((if0 _ _).trans (feq (by decide)).1) q) ?_
    show Go _ _ _ _ _ _ _ (T6.setTop (mkF m 111 #[.val (.int x1), .val (.int x2), .val (.int x3), .val (.int x4), .val (.int x5), .val (.int (0 : Int32)), .val (.ref b), .val (.ref a), .val (.int (1 : Int32)), .val (.int (1 : Int32)), .val (.ref a2), .val (.int (1 : Int32))] []))
    refine Go.of (fun _ q => XS.iconst X6.here hx rfl (hb hby at_111) q) ?_
    show Go _ _ _ _ _ _ _ (T6.setTop (mkF m 112 #[.val (.int x1), .val (.int x2), .val (.int x3), .val (.int x4), .val (.int x5), .val (.int (0 : Int32)), .val (.ref b), .val (.ref a), .val (.int (1 : Int32)), .val (.int (1 : Int32)), .val (.ref a2), .val (.int (1 : Int32))] [(.int (1 : Int32))]))
    refine Go.of (fun _ q => XS.goto X6.here hx rfl (pc0 := 112) (pc' := 116) rfl (hb hby at_112) (by decide) (by decide) q) ?_
    show Go _ _ _ _ _ _ _ (T6.setTop (mkF m 116 #[.val (.int x1), .val (.int x2), .val (.int x3), .val (.int x4), .val (.int x5), .val (.int (0 : Int32)), .val (.ref b), .val (.ref a), .val (.int (1 : Int32)), .val (.int (1 : Int32)), .val (.ref a2), .val (.int (1 : Int32))] [(.int (1 : Int32))]))
    refine Go.retN X6 hx hlk (t := .boolean) hret (by simp) (hb hby at_116) rfl (by decide) (by decide) ?_
    rw [e6]
    exact ⟨rfl, N6⟩
  · rw [q3]
    show Go _ _ _ _ _ _ _ (s₁.setTop (mkF m 3 #[.val (.int x1), .val (.int x2), .val (.int x3), .val (.int x4), .val (.int x5), .unset, .unset, .unset, .unset, .unset, .unset, .unset] [(.int (1 : Int32))]))
    refine Go.of (fun _ q => XS.istore X0.here hx rfl (hb hby at_3) rfl (l' := #[.val (.int x1), .val (.int x2), .val (.int x3), .val (.int x4), .val (.int x5), .val (.int (1 : Int32)), .unset, .unset, .unset, .unset, .unset, .unset]) rfl q) ?_
    show Go _ _ _ _ _ _ _ (s₁.setTop (mkF m 5 #[.val (.int x1), .val (.int x2), .val (.int x3), .val (.int x4), .val (.int x5), .val (.int (1 : Int32)), .unset, .unset, .unset, .unset, .unset, .unset] []))
    refine Go.of (fun _ q => XS.iload X0.here hx rfl (hb hby at_5) rfl q) ?_
    show Go _ _ _ _ _ _ _ (s₁.setTop (mkF m 7 #[.val (.int x1), .val (.int x2), .val (.int x3), .val (.int x4), .val (.int x5), .val (.int (1 : Int32)), .unset, .unset, .unset, .unset, .unset, .unset] [(.int (1 : Int32))]))
    obtain ⟨T7, h7, k7, X7, e7, E7, A7, B7, st7⟩ := newPE X0 hx hZ (hw _ (List.mem_of_getElem? (i := 0) rfl)) e0 (g := (mkF m 7 #[.val (.int x1), .val (.int x2), .val (.int x3), .val (.int x4), .val (.int x5), .val (.int (1 : Int32)), .unset, .unset, .unset, .unset, .unset, .unset] [(.int (1 : Int32))])) rfl (hb hby at_7) rfl (by decide) (cap := 1) (by decide) (by decide) (by decide) (by decide) (ad := "[B") (by decide)
    obtain ⟨b, g7⟩ : ∃ z, z = h0.size := ⟨_, rfl⟩
    rw [← g7] at A7 B7 st7
    refine Go.of st7 ?_
    have g_b : n0 ≤ b := Nat.le_trans Zs (Nat.le_of_eq g7.symm)
    have sz_b : h0.size ≤ b := Nat.le_trans Kp.1 (Nat.le_of_eq g7.symm)
    have Zs := Nat.le_trans Zs E7.1
    have Kp := Kp.ext E7
    have E_b := B7
    have A_b : AF Z h7 b k7 .byte 1 (fun i => .int ((fun _ => (0 : Int32)) i)) := AF.new A7 (by decide) rfl rfl
    show Go _ _ _ _ _ _ _ (T7.setTop (mkF m 9 #[.val (.int x1), .val (.int x2), .val (.int x3), .val (.int x4), .val (.int x5), .val (.int (1 : Int32)), .unset, .unset, .unset, .unset, .unset, .unset] [(.ref b)]))
    refine Go.of (fun _ q => XS.astore X7.here hx rfl (hb hby at_9) rfl rfl (l' := #[.val (.int x1), .val (.int x2), .val (.int x3), .val (.int x4), .val (.int x5), .val (.int (1 : Int32)), .val (.ref b), .unset, .unset, .unset, .unset, .unset]) rfl q) ?_
    show Go _ _ _ _ _ _ _ (T7.setTop (mkF m 11 #[.val (.int x1), .val (.int x2), .val (.int x3), .val (.int x4), .val (.int x5), .val (.int (1 : Int32)), .val (.ref b), .unset, .unset, .unset, .unset, .unset] []))
    refine Go.of (fun _ q => XS.iload X7.here hx rfl (hb hby at_11) rfl q) ?_
    show Go _ _ _ _ _ _ _ (T7.setTop (mkF m 13 #[.val (.int x1), .val (.int x2), .val (.int x3), .val (.int x4), .val (.int x5), .val (.int (1 : Int32)), .val (.ref b), .unset, .unset, .unset, .unset, .unset] [(.int (1 : Int32))]))
    refine Go.of (fun _ q => XS.ifNo X7.here hx rfl (hb hby at_13) rfl ((if0 _ _).trans (tlt (by decide)).2.2.2) q) ?_
    show Go _ _ _ _ _ _ _ (T7.setTop (mkF m 16 #[.val (.int x1), .val (.int x2), .val (.int x3), .val (.int x4), .val (.int x5), .val (.int (1 : Int32)), .val (.ref b), .unset, .unset, .unset, .unset, .unset] []))
    refine Go.of (fun _ q => XS.aload X7.here hx rfl (hb hby at_16) rfl rfl q) ?_
    show Go _ _ _ _ _ _ _ (T7.setTop (mkF m 18 #[.val (.int x1), .val (.int x2), .val (.int x3), .val (.int x4), .val (.int x5), .val (.int (1 : Int32)), .val (.ref b), .unset, .unset, .unset, .unset, .unset] [(.ref b)]))
    refine Go.of (fun _ q => XS.iconst X7.here hx rfl (hb hby at_18) q) ?_
    show Go _ _ _ _ _ _ _ (T7.setTop (mkF m 19 #[.val (.int x1), .val (.int x2), .val (.int x3), .val (.int x4), .val (.int x5), .val (.int (1 : Int32)), .val (.ref b), .unset, .unset, .unset, .unset, .unset] [(.int (0 : Int32)), (.ref b)]))
    refine Go.of (fun _ q => XS.iloadN X7.here hx rfl (hb hby at_19) rfl q) ?_
    show Go _ _ _ _ _ _ _ (T7.setTop (mkF m 20 #[.val (.int x1), .val (.int x2), .val (.int x3), .val (.int x4), .val (.int x5), .val (.int (1 : Int32)), .val (.ref b), .unset, .unset, .unset, .unset, .unset] [(.int x3), (.int (0 : Int32)), (.ref b)]))
    refine Go.of (fun _ q => XS.i2b X7.here hx rfl (hb hby at_20) rfl q) ?_
    show Go _ _ _ _ _ _ _ (T7.setTop (mkF m 21 #[.val (.int x1), .val (.int x2), .val (.int x3), .val (.int x4), .val (.int x5), .val (.int (1 : Int32)), .val (.ref b), .unset, .unset, .unset, .unset, .unset] [(.int (x3.toInt8.toInt32)), (.int (0 : Int32)), (.ref b)]))
    obtain ⟨T8, h8, X8, e8, W8, A8', st8⟩ := AF.bastore A_b X7 hx hZ e7 (i := 0) ⟨rfl, by decide, by decide⟩ (g := (mkF m 21 #[.val (.int x1), .val (.int x2), .val (.int x3), .val (.int x4), .val (.int x5), .val (.int (1 : Int32)), .val (.ref b), .unset, .unset, .unset, .unset, .unset] [(.int (x3.toInt8.toInt32)), (.int (0 : Int32)), (.ref b)])) rfl rfl (hb hby at_21)
    refine Go.of st8 ?_
    have Zs := Nat.le_trans Zs (Nat.le_of_eq W8.size.symm)
    have Kp := Kp.wr W8 (Or.inr sz_b)
    have E_b := E_b.wr W8
    have A_b : AF Z h8 b k7 .byte 1 (fun i => .int ((upI (fun _ => (0 : Int32)) 0 ((x3.toInt8.toInt32).toInt8.toInt32)) i)) := A8'.toI
    have N8 := Fr.snoc X8 N0 g_b
    show Go _ _ _ _ _ _ _ (T8.setTop (mkF m 22 #[.val (.int x1), .val (.int x2), .val (.int x3), .val (.int x4), .val (.int x5), .val (.int (1 : Int32)), .val (.ref b), .unset, .unset, .unset, .unset, .unset] []))
    refine Go.of (fun _ q => XS.iload X8.here hx rfl (hb hby at_22) rfl q) ?_
    show Go _ _ _ _ _ _ _ (T8.setTop (mkF m 24 #[.val (.int x1), .val (.int x2), .val (.int x3), .val (.int x4), .val (.int x5), .val (.int (1 : Int32)), .val (.ref b), .unset, .unset, .unset, .unset, .unset] [(.int (1 : Int32))]))
    refine Go.of (fun _ q => XS.iconst X8.here hx rfl (hb hby at_24) q) ?_
    show Go _ _ _ _ _ _ _ (T8.setTop (mkF m 25 #[.val (.int x1), .val (.int x2), .val (.int x3), .val (.int x4), .val (.int x5), .val (.int (1 : Int32)), .val (.ref b), .unset, .unset, .unset, .unset, .unset] [(.int (1 : Int32)), (.int (1 : Int32))]))
    refine Go.of (fun _ q => XS.icmpYes X8.here hx rfl (pc0 := 25) (pc' := 34) rfl (hb hby at_25) rfl (flt (by decide)).2.2.2 (by decide) (by decide) q) ?_
    show Go _ _ _ _ _ _ _ (T8.setTop (mkF m 34 #[.val (.int x1), .val (.int x2), .val (.int x3), .val (.int x4), .val (.int x5), .val (.int (1 : Int32)), .val (.ref b), .unset, .unset, .unset, .unset, .unset] []))
    refine Go.of (fun _ q => XS.iload X8.here hx rfl (hb hby at_34) rfl q) ?_
    show Go _ _ _ _ _ _ _ (T8.setTop (mkF m 36 #[.val (.int x1), .val (.int x2), .val (.int x3), .val (.int x4), .val (.int x5), .val (.int (1 : Int32)), .val (.ref b), .unset, .unset, .unset, .unset, .unset] [(.int (1 : Int32))]))
    refine Go.of (fun _ q => XS.iconst X8.here hx rfl (hb hby at_36) q) ?_
    show Go _ _ _ _ _ _ _ (T8.setTop (mkF m 37 #[.val (.int x1), .val (.int x2), .val (.int x3), .val (.int x4), .val (.int x5), .val (.int (1 : Int32)), .val (.ref b), .unset, .unset, .unset, .unset, .unset] [(.int (2 : Int32)), (.int (1 : Int32))]))
    refine Go.of (fun _ q => XS.icmpYes X8.here hx rfl (pc0 := 37) (pc' := 47) rfl (hb hby at_37) rfl (flt (by decide)).2.2.2 (by decide) (by decide) q) ?_
    show Go _ _ _ _ _ _ _ (T8.setTop (mkF m 47 #[.val (.int x1), .val (.int x2), .val (.int x3), .val (.int x4), .val (.int x5), .val (.int (1 : Int32)), .val (.ref b), .unset, .unset, .unset, .unset, .unset] []))
    obtain ⟨T9, h9, X9, e9, E9, A9, D9, -, st9⟩ := newO X8 hx hZ hown (hw _ (List.mem_of_getElem? (i := 1) rfl)) (hw _ (List.mem_of_getElem? (i := 2) rfl)) (hw _ (List.mem_of_getElem? (i := 3) rfl)) e8 (g := (mkF m 47 #[.val (.int x1), .val (.int x2), .val (.int x3), .val (.int x4), .val (.int x5), .val (.int (1 : Int32)), .val (.ref b), .unset, .unset, .unset, .unset, .unset] [])) rfl (hb hby at_47) (by decide) (by decide)
    obtain ⟨a, g9⟩ : ∃ z, z = h8.size := ⟨_, rfl⟩
    rw [← g9] at A9 D9 st9
    refine Go.of st9 ?_
    have g_a : n0 ≤ a := Nat.le_trans Zs (Nat.le_of_eq g9.symm)
    have sz_a : h0.size ≤ a := Nat.le_trans Kp.1 (Nat.le_of_eq g9.symm)
    have ne_b_a : b ≠ a := Nat.ne_of_lt (Nat.lt_of_lt_of_le E_b.lt (Nat.le_of_eq g9.symm))
    have Zs := Nat.le_trans Zs E9.1
    have Kp := Kp.ext E9
    have E_b := E_b.ext E9
    have A_b := A_b.ext E9
    have E_a := A9
    have F_a_tree : Fld Z h9 a "com/example/latchwork/latchwork/Key" "tree" "I" (.int (0 : Int32)) := D9 (Or.inr (hw _ (List.mem_of_getElem? (i := 11) rfl))) (ty := .int) (by decide)
    have F_a_bytes : Fld Z h9 a "com/example/latchwork/latchwork/Key" "bytes" "[B" .null := D9 (Or.inr (hw _ (List.mem_of_getElem? (i := 13) rfl))) (ty := (.array .byte)) (by decide)
    have F_a_hash : Fld Z h9 a "com/example/latchwork/latchwork/Key" "hash" "I" (.int (0 : Int32)) := D9 (Or.inr (hw _ (List.mem_of_getElem? (i := 28) rfl))) (ty := .int) (by decide)
    show Go _ _ _ _ _ _ _ (T9.setTop (mkF m 50 #[.val (.int x1), .val (.int x2), .val (.int x3), .val (.int x4), .val (.int x5), .val (.int (1 : Int32)), .val (.ref b), .unset, .unset, .unset, .unset, .unset] [(.ref a)]))
    refine Go.of (fun _ q => XS.dup X9.here hx rfl (hb hby at_50) rfl rfl q) ?_
    show Go _ _ _ _ _ _ _ (T9.setTop (mkF m 51 #[.val (.int x1), .val (.int x2), .val (.int x3), .val (.int x4), .val (.int x5), .val (.int (1 : Int32)), .val (.ref b), .unset, .unset, .unset, .unset, .unset] [(.ref a), (.ref a)]))
    refine Go.of (fun _ q => XS.iloadN X9.here hx rfl (hb hby at_51) rfl q) ?_
    show Go _ _ _ _ _ _ _ (T9.setTop (mkF m 52 #[.val (.int x1), .val (.int x2), .val (.int x3), .val (.int x4), .val (.int x5), .val (.int (1 : Int32)), .val (.ref b), .unset, .unset, .unset, .unset, .unset] [(.int x1), (.ref a), (.ref a)]))
    refine Go.of (fun _ q => XS.aload X9.here hx rfl (hb hby at_52) rfl rfl q) ?_
    show Go _ _ _ _ _ _ _ (T9.setTop (mkF m 54 #[.val (.int x1), .val (.int x2), .val (.int x3), .val (.int x4), .val (.int x5), .val (.int (1 : Int32)), .val (.ref b), .unset, .unset, .unset, .unset, .unset] [(.ref b), (.int x1), (.ref a), (.ref a)]))
    refine Go.special X9 hx hZ (y := (⟨"com/example/latchwork/latchwork/Key", "<init>", "(I[B)V"⟩ : MethodName)) (a := a) (argsL := [(.int x1), (.ref b)]) rfl hown (hw _ (List.mem_of_getElem? (i := 4) rfl)) (hw _ (List.mem_of_getElem? (i := 5) rfl)) (hw _ (List.mem_of_getElem? (i := 3) rfl)) (hw _ (List.mem_of_getElem? (i := 6) rfl)) (by decide) 1 e9 (rm1_1 l Z a0 hw a x1 b k7 (upI (fun _ => (0 : Int32)) 0 ((x3.toInt8.toInt32).toInt8.toInt32)) (0 : Int32) .null (0 : Int32) h9 n0 Zs E_a F_a_tree F_a_bytes F_a_hash g_a A_b E_b ne_b_a) (by decide) (by decide) (by decide) (by decide) (g := (mkF m 54 #[.val (.int x1), .val (.int x2), .val (.int x3), .val (.int x4), .val (.int x5), .val (.int (1 : Int32)), .val (.ref b), .unset, .unset, .unset, .unset, .unset] [(.ref b), (.int x1), (.ref a), (.ref a)])) rfl (by rw [hml]; rfl) (rest := [(.ref a)]) (lenOf pd3 rfl) rfl (by show 2 * 0 + _ ≤ _; exact Nat.le_of_eq rfl) (hb hby at_54) ?_
    intro T10 v10 L10 X10 q10
    obtain ⟨rfl, Nq10, K10, f10_0, f10_1⟩ := q10
    have N10 := Fr.app N8 Nq10
    have Zs := Nat.le_trans Zs K10.1
    have Kp := Kp.trans K10 (allS (P := fun x => x ∈ [] ∨ h0.size ≤ x) (Or.inr sz_a) all0)
    have E_b := E_b.keep K10
    have A_b := A_b.keep K10 (ninS ne_b_a nin0)
    have E_a := E_a.keep K10
    have F_a_bytes := f10_1
    show Go _ _ _ _ _ _ _ (T10.setTop (mkF m 57 #[.val (.int x1), .val (.int x2), .val (.int x3), .val (.int x4), .val (.int x5), .val (.int (1 : Int32)), .val (.ref b), .unset, .unset, .unset, .unset, .unset] [(.ref a)]))
    refine Go.of (fun _ q => XS.astore X10.here hx rfl (hb hby at_57) rfl rfl (l' := #[.val (.int x1), .val (.int x2), .val (.int x3), .val (.int x4), .val (.int x5), .val (.int (1 : Int32)), .val (.ref b), .val (.ref a), .unset, .unset, .unset, .unset]) rfl q) ?_
    show Go _ _ _ _ _ _ _ (T10.setTop (mkF m 59 #[.val (.int x1), .val (.int x2), .val (.int x3), .val (.int x4), .val (.int x5), .val (.int (1 : Int32)), .val (.ref b), .val (.ref a), .unset, .unset, .unset, .unset] []))
    refine Go.of (fun _ q => XS.iload X10.here hx rfl (hb hby at_59) rfl q) ?_
    show Go _ _ _ _ _ _ _ (T10.setTop (mkF m 61 #[.val (.int x1), .val (.int x2), .val (.int x3), .val (.int x4), .val (.int x5), .val (.int (1 : Int32)), .val (.ref b), .val (.ref a), .unset, .unset, .unset, .unset] [(.int (1 : Int32))]))
    refine Go.of (fun _ q => XS.ifYes X10.here hx rfl (pc0 := 61) (pc' := 68) rfl (hb hby at_61) rfl ((if0 _ _).trans (feq (by decide)).2) (by decide) (by decide) q) ?_
    show Go _ _ _ _ _ _ _ (T10.setTop (mkF m 68 #[.val (.int x1), .val (.int x2), .val (.int x3), .val (.int x4), .val (.int x5), .val (.int (1 : Int32)), .val (.ref b), .val (.ref a), .unset, .unset, .unset, .unset] []))
    refine Go.of (fun _ q => XS.iconst X10.here hx rfl (hb hby at_68) q) ?_
    show Go _ _ _ _ _ _ _ (T10.setTop (mkF m 69 #[.val (.int x1), .val (.int x2), .val (.int x3), .val (.int x4), .val (.int x5), .val (.int (1 : Int32)), .val (.ref b), .val (.ref a), .unset, .unset, .unset, .unset] [(.int (0 : Int32))]))
    refine Go.of (fun _ q => XS.istore X10.here hx rfl (hb hby at_69) rfl (l' := #[.val (.int x1), .val (.int x2), .val (.int x3), .val (.int x4), .val (.int x5), .val (.int (1 : Int32)), .val (.ref b), .val (.ref a), .val (.int (0 : Int32)), .unset, .unset, .unset]) rfl q) ?_
    show Go _ _ _ _ _ _ _ (T10.setTop (mkF m 71 #[.val (.int x1), .val (.int x2), .val (.int x3), .val (.int x4), .val (.int x5), .val (.int (1 : Int32)), .val (.ref b), .val (.ref a), .val (.int (0 : Int32)), .unset, .unset, .unset] []))
    refine Go.of (fun _ q => XS.aload X10.here hx rfl (hb hby at_71) rfl rfl q) ?_
    show Go _ _ _ _ _ _ _ (T10.setTop (mkF m 73 #[.val (.int x1), .val (.int x2), .val (.int x3), .val (.int x4), .val (.int x5), .val (.int (1 : Int32)), .val (.ref b), .val (.ref a), .val (.int (0 : Int32)), .unset, .unset, .unset] [(.ref a)]))
    refine Go.virtual X10 hx hZ (y := (⟨"com/example/latchwork/latchwork/Key", "isEnd", "()Z"⟩ : MethodName)) (z := (⟨"com/example/latchwork/latchwork/Key", "isEnd", "()Z"⟩ : MethodName)) (a := a) (argsL := []) hown (hw _ (List.mem_of_getElem? (i := 29) rfl)) (hw _ (List.mem_of_getElem? (i := 30) rfl)) (notFace_of_selects (args := #[]) (mvT hZ (hw _ (List.mem_of_getElem? (i := 32) rfl)))) (hw _ (List.mem_of_getElem? (i := 32) rfl)) (hw _ (List.mem_of_getElem? (i := 31) rfl)) (hw _ (List.mem_of_getElem? (i := 3) rfl)) (hw _ (List.mem_of_getElem? (i := 33) rfl)) (by decide) 0 rfl E_a (rm6_1 l Z a0 hw a b k7 (upI (fun _ => (0 : Int32)) 0 ((x3.toInt8.toInt32).toInt8.toInt32)) T10.heap n0 Zs F_a_bytes A_b) (by decide) (by decide) (by decide) (by decide) (g := (mkF m 73 #[.val (.int x1), .val (.int x2), .val (.int x3), .val (.int x4), .val (.int x5), .val (.int (1 : Int32)), .val (.ref b), .val (.ref a), .val (.int (0 : Int32)), .unset, .unset, .unset] [(.ref a)])) rfl (by rw [hml]; rfl) (rest := []) (lenOf pd4 rfl) rfl (by show 2 * 0 + _ ≤ _; exact Nat.le_of_eq rfl) (hb hby at_73) ?_
    intro T11 v11 L11 X11 q11
    obtain ⟨rfl, Nq11, e11⟩ := q11
    have N11 := Fr.app N10 Nq11
    show Go _ _ _ _ _ _ _ (T11.setTop (mkF m 76 #[.val (.int x1), .val (.int x2), .val (.int x3), .val (.int x4), .val (.int x5), .val (.int (1 : Int32)), .val (.ref b), .val (.ref a), .val (.int (0 : Int32)), .unset, .unset, .unset] [(.int (0 : Int32))]))
    refine Go.of (fun _ q => XS.iload X11.here hx rfl (hb hby at_76) rfl q) ?_
    show Go _ _ _ _ _ _ _ (T11.setTop (mkF m 78 #[.val (.int x1), .val (.int x2), .val (.int x3), .val (.int x4), .val (.int x5), .val (.int (1 : Int32)), .val (.ref b), .val (.ref a), .val (.int (0 : Int32)), .unset, .unset, .unset] [(.int (0 : Int32)), (.int (0 : Int32))]))
    refine Go.of (fun _ q => XS.icmpNo X11.here hx rfl (hb hby at_78) rfl (teq rfl).2 q) ?_
    show Go _ _ _ _ _ _ _ (T11.setTop (mkF m 81 #[.val (.int x1), .val (.int x2), .val (.int x3), .val (.int x4), .val (.int x5), .val (.int (1 : Int32)), .val (.ref b), .val (.ref a), .val (.int (0 : Int32)), .unset, .unset, .unset] []))
    refine Go.of (fun _ q => XS.iconst X11.here hx rfl (hb hby at_81) q) ?_
    show Go _ _ _ _ _ _ _ (T11.setTop (mkF m 82 #[.val (.int x1), .val (.int x2), .val (.int x3), .val (.int x4), .val (.int x5), .val (.int (1 : Int32)), .val (.ref b), .val (.ref a), .val (.int (0 : Int32)), .unset, .unset, .unset] [(.int (1 : Int32))]))
    refine Go.of (fun _ q => XS.goto X11.here hx rfl (pc0 := 82) (pc' := 86) rfl (hb hby at_82) (by decide) (by decide) q) ?_
    show Go _ _ _ _ _ _ _ (T11.setTop (mkF m 86 #[.val (.int x1), .val (.int x2), .val (.int x3), .val (.int x4), .val (.int x5), .val (.int (1 : Int32)), .val (.ref b), .val (.ref a), .val (.int (0 : Int32)), .unset, .unset, .unset] [(.int (1 : Int32))]))
    refine Go.of (fun _ q => XS.istore X11.here hx rfl (hb hby at_86) rfl (l' := #[.val (.int x1), .val (.int x2), .val (.int x3), .val (.int x4), .val (.int x5), .val (.int (1 : Int32)), .val (.ref b), .val (.ref a), .val (.int (0 : Int32)), .val (.int (1 : Int32)), .unset, .unset]) rfl q) ?_
    show Go _ _ _ _ _ _ _ (T11.setTop (mkF m 88 #[.val (.int x1), .val (.int x2), .val (.int x3), .val (.int x4), .val (.int x5), .val (.int (1 : Int32)), .val (.ref b), .val (.ref a), .val (.int (0 : Int32)), .val (.int (1 : Int32)), .unset, .unset] []))
    refine Go.of (fun _ q => XS.iloadN X11.here hx rfl (hb hby at_88) rfl q) ?_
    show Go _ _ _ _ _ _ _ (T11.setTop (mkF m 89 #[.val (.int x1), .val (.int x2), .val (.int x3), .val (.int x4), .val (.int x5), .val (.int (1 : Int32)), .val (.ref b), .val (.ref a), .val (.int (0 : Int32)), .val (.int (1 : Int32)), .unset, .unset] [(.int x1)]))
    refine Go.static X11 hx hZ (y := (⟨"com/example/latchwork/latchwork/Key", "end", "(I)Lcom/example/latchwork/latchwork/Key;"⟩ : MethodName)) (argsL := [(.int x1)]) hown (hw _ (List.mem_of_getElem? (i := 34) rfl)) (hw _ (List.mem_of_getElem? (i := 35) rfl)) (hw _ (List.mem_of_getElem? (i := 3) rfl)) (hw _ (List.mem_of_getElem? (i := 36) rfl)) (by decide) 0 e11 (rm7 l Z a0 hw x1 T10.heap n0 Zs ) (by decide) (by decide) (by decide) (by decide) (g := (mkF m 89 #[.val (.int x1), .val (.int x2), .val (.int x3), .val (.int x4), .val (.int x5), .val (.int (1 : Int32)), .val (.ref b), .val (.ref a), .val (.int (0 : Int32)), .val (.int (1 : Int32)), .unset, .unset] [(.int x1)])) rfl (by rw [hml]; rfl) (rest := []) (lenOf pd5 rfl) rfl (by show 2 * 0 + _ ≤ _; exact Nat.le_of_eq rfl) (hb hby at_89) ?_
    intro T12 v12 L12 X12 q12
    obtain ⟨a2, b2, kb2, gb2, rfl, Nq12, K12, f12_0, f12_1, f12_2, f12_3, f12_4, f12_5⟩ := q12
    have N12 := Fr.app N11 Nq12
    have g_a2 : n0 ≤ a2 := Nat.le_trans Zs f12_0
    have sz_a2 : h0.size ≤ a2 := Nat.le_trans Kp.1 f12_0
    have ne_b_a2 : b ≠ a2 := Nat.ne_of_lt (Nat.lt_of_lt_of_le E_b.lt f12_0)
    have ne_a_a2 : a ≠ a2 := Nat.ne_of_lt (Nat.lt_of_lt_of_le E_a.lt f12_0)
    have g_b2 : n0 ≤ b2 := Nat.le_trans Zs f12_1
    have sz_b2 : h0.size ≤ b2 := Nat.le_trans Kp.1 f12_1
    have ne_b_b2 : b ≠ b2 := Nat.ne_of_lt (Nat.lt_of_lt_of_le E_b.lt f12_1)
    have ne_a_b2 : a ≠ b2 := Nat.ne_of_lt (Nat.lt_of_lt_of_le E_a.lt f12_1)
    have Zs := Nat.le_trans Zs K12.1
    have Kp := Kp.trans K12 all0
    have E_b := E_b.keep K12
    have A_b := A_b.keep K12 nin0
    have E_a := E_a.keep K12
    have F_a_bytes := F_a_bytes.keep K12 nin0
    have E_a2 := f12_3
    have F_a2_bytes := f12_4
    have A_b2 := f12_5
    show Go _ _ _ _ _ _ _ (T12.setTop (mkF m 92 #[.val (.int x1), .val (.int x2), .val (.int x3), .val (.int x4), .val (.int x5), .val (.int (1 : Int32)), .val (.ref b), .val (.ref a), .val (.int (0 : Int32)), .val (.int (1 : Int32)), .unset, .unset] [(.ref a2)]))
    refine Go.of (fun _ q => XS.astore X12.here hx rfl (hb hby at_92) rfl rfl (l' := #[.val (.int x1), .val (.int x2), .val (.int x3), .val (.int x4), .val (.int x5), .val (.int (1 : Int32)), .val (.ref b), .val (.ref a), .val (.int (0 : Int32)), .val (.int (1 : Int32)), .val (.ref a2), .unset]) rfl q) ?_
    show Go _ _ _ _ _ _ _ (T12.setTop (mkF m 94 #[.val (.int x1), .val (.int x2), .val (.int x3), .val (.int x4), .val (.int x5), .val (.int (1 : Int32)), .val (.ref b), .val (.ref a), .val (.int (0 : Int32)), .val (.int (1 : Int32)), .val (.ref a2), .unset] []))
    refine Go.of (fun _ q => XS.aload X12.here hx rfl (hb hby at_94) rfl rfl q) ?_
    show Go _ _ _ _ _ _ _ (T12.setTop (mkF m 96 #[.val (.int x1), .val (.int x2), .val (.int x3), .val (.int x4), .val (.int x5), .val (.int (1 : Int32)), .val (.ref b), .val (.ref a), .val (.int (0 : Int32)), .val (.int (1 : Int32)), .val (.ref a2), .unset] [(.ref a2)]))
    refine Go.virtual X12 hx hZ (y := (⟨"com/example/latchwork/latchwork/Key", "isEnd", "()Z"⟩ : MethodName)) (z := (⟨"com/example/latchwork/latchwork/Key", "isEnd", "()Z"⟩ : MethodName)) (a := a2) (argsL := []) hown (hw _ (List.mem_of_getElem? (i := 29) rfl)) (hw _ (List.mem_of_getElem? (i := 30) rfl)) (notFace_of_selects (args := #[]) (mvT hZ (hw _ (List.mem_of_getElem? (i := 32) rfl)))) (hw _ (List.mem_of_getElem? (i := 32) rfl)) (hw _ (List.mem_of_getElem? (i := 31) rfl)) (hw _ (List.mem_of_getElem? (i := 3) rfl)) (hw _ (List.mem_of_getElem? (i := 33) rfl)) (by decide) 0 rfl E_a2 (rm6_0 l Z a0 hw a2 b2 kb2 gb2 T12.heap n0 Zs F_a2_bytes A_b2) (by decide) (by decide) (by decide) (by decide) (g := (mkF m 96 #[.val (.int x1), .val (.int x2), .val (.int x3), .val (.int x4), .val (.int x5), .val (.int (1 : Int32)), .val (.ref b), .val (.ref a), .val (.int (0 : Int32)), .val (.int (1 : Int32)), .val (.ref a2), .unset] [(.ref a2)])) rfl (by rw [hml]; rfl) (rest := []) (lenOf pd4 rfl) rfl (by show 2 * 0 + _ ≤ _; exact Nat.le_of_eq rfl) (hb hby at_96) ?_
    intro T13 v13 L13 X13 q13
    obtain ⟨rfl, Nq13, e13⟩ := q13
    have N13 := Fr.app N12 Nq13
    show Go _ _ _ _ _ _ _ (T13.setTop (mkF m 99 #[.val (.int x1), .val (.int x2), .val (.int x3), .val (.int x4), .val (.int x5), .val (.int (1 : Int32)), .val (.ref b), .val (.ref a), .val (.int (0 : Int32)), .val (.int (1 : Int32)), .val (.ref a2), .unset] [(.int (1 : Int32))]))
    refine Go.of (fun _ q => XS.istore X13.here hx rfl (hb hby at_99) rfl (l' := #[.val (.int x1), .val (.int x2), .val (.int x3), .val (.int x4), .val (.int x5), .val (.int (1 : Int32)), .val (.ref b), .val (.ref a), .val (.int (0 : Int32)), .val (.int (1 : Int32)), .val (.ref a2), .val (.int (1 : Int32))]) rfl q) ?_
    show Go _ _ _ _ _ _ _ (T13.setTop (mkF m 101 #[.val (.int x1), .val (.int x2), .val (.int x3), .val (.int x4), .val (.int x5), .val (.int (1 : Int32)), .val (.ref b), .val (.ref a), .val (.int (0 : Int32)), .val (.int (1 : Int32)), .val (.ref a2), .val (.int (1 : Int32))] []))
    refine Go.of (fun _ q => XS.iload X13.here hx rfl (hb hby at_101) rfl q) ?_
    show Go _ _ _ _ _ _ _ (T13.setTop (mkF m 103 #[.val (.int x1), .val (.int x2), .val (.int x3), .val (.int x4), .val (.int x5), .val (.int (1 : Int32)), .val (.ref b), .val (.ref a), .val (.int (0 : Int32)), .val (.int (1 : Int32)), .val (.ref a2), .val (.int (1 : Int32))] [(.int (1 : Int32))]))
    refine Go.of (fun _ q => XS.ifNo X13.here hx rfl (hb hby at_103) rfl ((if0 _ _).trans (feq (by decide)).1) q) ?_
    show Go _ _ _ _ _ _ _ (T13.setTop (mkF m 106 #[.val (.int x1), .val (.int x2), .val (.int x3), .val (.int x4), .val (.int x5), .val (.int (1 : Int32)), .val (.ref b), .val (.ref a), .val (.int (0 : Int32)), .val (.int (1 : Int32)), .val (.ref a2), .val (.int (1 : Int32))] []))
    refine Go.of (fun _ q => XS.iload X13.here hx rfl (hb hby at_106) rfl q) ?_
    show Go _ _ _ _ _ _ _ (T13.setTop (mkF m 108 #[.val (.int x1), .val (.int x2), .val (.int x3), .val (.int x4), .val (.int x5), .val (.int (1 : Int32)), .val (.ref b), .val (.ref a), .val (.int (0 : Int32)), .val (.int (1 : Int32)), .val (.ref a2), .val (.int (1 : Int32))] [(.int (1 : Int32))]))
    refine Go.of (fun _ q => XS.ifNo X13.here hx rfl (hb hby at_108) rfl ((if0 _ _).trans (feq (by decide)).1) q) ?_
    show Go _ _ _ _ _ _ _ (T13.setTop (mkF m 111 #[.val (.int x1), .val (.int x2), .val (.int x3), .val (.int x4), .val (.int x5), .val (.int (1 : Int32)), .val (.ref b), .val (.ref a), .val (.int (0 : Int32)), .val (.int (1 : Int32)), .val (.ref a2), .val (.int (1 : Int32))] []))
    refine Go.of (fun _ q => XS.iconst X13.here hx rfl (hb hby at_111) q) ?_
    show Go _ _ _ _ _ _ _ (T13.setTop (mkF m 112 #[.val (.int x1), .val (.int x2), .val (.int x3), .val (.int x4), .val (.int x5), .val (.int (1 : Int32)), .val (.ref b), .val (.ref a), .val (.int (0 : Int32)), .val (.int (1 : Int32)), .val (.ref a2), .val (.int (1 : Int32))] [(.int (1 : Int32))]))
    refine Go.of (fun _ q => XS.goto X13.here hx rfl (pc0 := 112) (pc' := 116) rfl (hb hby at_112) (by decide) (by decide) q) ?_
    show Go _ _ _ _ _ _ _ (T13.setTop (mkF m 116 #[.val (.int x1), .val (.int x2), .val (.int x3), .val (.int x4), .val (.int x5), .val (.int (1 : Int32)), .val (.ref b), .val (.ref a), .val (.int (0 : Int32)), .val (.int (1 : Int32)), .val (.ref a2), .val (.int (1 : Int32))] [(.int (1 : Int32))]))
    refine Go.retN X13 hx hlk (t := .boolean) hret (by simp) (hb hby at_116) rfl (by decide) (by decide) ?_
    rw [e13]
    exact ⟨rfl, N13⟩
  · rw [q3]
    show Go _ _ _ _ _ _ _ (s₁.setTop (mkF m 3 #[.val (.int x1), .val (.int x2), .val (.int x3), .val (.int x4), .val (.int x5), .unset, .unset, .unset, .unset, .unset, .unset, .unset] [(.int (2 : Int32))]))
    refine Go.of (fun _ q => XS.istore X0.here hx rfl (hb hby at_3) rfl (l' := #[.val (.int x1), .val (.int x2), .val (.int x3), .val (.int x4), .val (.int x5), .val (.int (2 : Int32)), .unset, .unset, .unset, .unset, .unset, .unset]) rfl q) ?_
    show Go _ _ _ _ _ _ _ (s₁.setTop (mkF m 5 #[.val (.int x1), .val (.int x2), .val (.int x3), .val (.int x4), .val (.int x5), .val (.int (2 : Int32)), .unset, .unset, .unset, .unset, .unset, .unset] []))
    refine Go.of (fun _ q => XS.iload X0.here hx rfl (hb hby at_5) rfl q) ?_
    show Go _ _ _ _ _ _ _ (s₁.setTop (mkF m 7 #[.val (.int x1), .val (.int x2), .val (.int x3), .val (.int x4), .val (.int x5), .val (.int (2 : Int32)), .unset, .unset, .unset, .unset, .unset, .unset] [(.int (2 : Int32))]))
    obtain ⟨T14, h14, k14, X14, e14, E14, A14, B14, st14⟩ := newPE X0 hx hZ (hw _ (List.mem_of_getElem? (i := 0) rfl)) e0 (g := (mkF m 7 #[.val (.int x1), .val (.int x2), .val (.int x3), .val (.int x4), .val (.int x5), .val (.int (2 : Int32)), .unset, .unset, .unset, .unset, .unset, .unset] [(.int (2 : Int32))])) rfl (hb hby at_7) rfl (by decide) (cap := 2) (by decide) (by decide) (by decide) (by decide) (ad := "[B") (by decide)
    obtain ⟨b, g14⟩ : ∃ z, z = h0.size := ⟨_, rfl⟩
    rw [← g14] at A14 B14 st14
    refine Go.of st14 ?_
    have g_b : n0 ≤ b := Nat.le_trans Zs (Nat.le_of_eq g14.symm)
    have sz_b : h0.size ≤ b := Nat.le_trans Kp.1 (Nat.le_of_eq g14.symm)
    have Zs := Nat.le_trans Zs E14.1
    have Kp := Kp.ext E14
    have E_b := B14
    have A_b : AF Z h14 b k14 .byte 2 (fun i => .int ((fun _ => (0 : Int32)) i)) := AF.new A14 (by decide) rfl rfl
    show Go _ _ _ _ _ _ _ (T14.setTop (mkF m 9 #[.val (.int x1), .val (.int x2), .val (.int x3), .val (.int x4), .val (.int x5), .val (.int (2 : Int32)), .unset, .unset, .unset, .unset, .unset, .unset] [(.ref b)]))
    refine Go.of (fun _ q => XS.astore X14.here hx rfl (hb hby at_9) rfl rfl (l' := #[.val (.int x1), .val (.int x2), .val (.int x3), .val (.int x4), .val (.int x5), .val (.int (2 : Int32)), .val (.ref b), .unset, .unset, .unset, .unset, .unset]) rfl q) ?_
    show Go _ _ _ _ _ _ _ (T14.setTop (mkF m 11 #[.val (.int x1), .val (.int x2), .val (.int x3), .val (.int x4), .val (.int x5), .val (.int (2 : Int32)), .val (.ref b), .unset, .unset, .unset, .unset, .unset] []))
    refine Go.of (fun _ q => XS.iload X14.here hx rfl (hb hby at_11) rfl q) ?_
    show Go _ _ _ _ _ _ _ (T14.setTop (mkF m 13 #[.val (.int x1), .val (.int x2), .val (.int x3), .val (.int x4), .val (.int x5), .val (.int (2 : Int32)), .val (.ref b), .unset, .unset, .unset, .unset, .unset] [(.int (2 : Int32))]))
    refine Go.of (fun _ q => XS.ifNo X14.here hx rfl (hb hby at_13) rfl ((if0 _ _).trans (tlt (by decide)).2.2.2) q) ?_
    show Go _ _ _ _ _ _ _ (T14.setTop (mkF m 16 #[.val (.int x1), .val (.int x2), .val (.int x3), .val (.int x4), .val (.int x5), .val (.int (2 : Int32)), .val (.ref b), .unset, .unset, .unset, .unset, .unset] []))
    refine Go.of (fun _ q => XS.aload X14.here hx rfl (hb hby at_16) rfl rfl q) ?_
    show Go _ _ _ _ _ _ _ (T14.setTop (mkF m 18 #[.val (.int x1), .val (.int x2), .val (.int x3), .val (.int x4), .val (.int x5), .val (.int (2 : Int32)), .val (.ref b), .unset, .unset, .unset, .unset, .unset] [(.ref b)]))
    refine Go.of (fun _ q => XS.iconst X14.here hx rfl (hb hby at_18) q) ?_
    show Go _ _ _ _ _ _ _ (T14.setTop (mkF m 19 #[.val (.int x1), .val (.int x2), .val (.int x3), .val (.int x4), .val (.int x5), .val (.int (2 : Int32)), .val (.ref b), .unset, .unset, .unset, .unset, .unset] [(.int (0 : Int32)), (.ref b)]))
    refine Go.of (fun _ q => XS.iloadN X14.here hx rfl (hb hby at_19) rfl q) ?_
    show Go _ _ _ _ _ _ _ (T14.setTop (mkF m 20 #[.val (.int x1), .val (.int x2), .val (.int x3), .val (.int x4), .val (.int x5), .val (.int (2 : Int32)), .val (.ref b), .unset, .unset, .unset, .unset, .unset] [(.int x3), (.int (0 : Int32)), (.ref b)]))
    refine Go.of (fun _ q => XS.i2b X14.here hx rfl (hb hby at_20) rfl q) ?_
    show Go _ _ _ _ _ _ _ (T14.setTop (mkF m 21 #[.val (.int x1), .val (.int x2), .val (.int x3), .val (.int x4), .val (.int x5), .val (.int (2 : Int32)), .val (.ref b), .unset, .unset, .unset, .unset, .unset] [(.int (x3.toInt8.toInt32)), (.int (0 : Int32)), (.ref b)]))
    obtain ⟨T15, h15, X15, e15, W15, A15', st15⟩ := AF.bastore A_b X14 hx hZ e14 (i := 0) ⟨rfl, by decide, by decide⟩ (g := (mkF m 21 #[.val (.int x1), .val (.int x2), .val (.int x3), .val (.int x4), .val (.int x5), .val (.int (2 : Int32)), .val (.ref b), .unset, .unset, .unset, .unset, .unset] [(.int (x3.toInt8.toInt32)), (.int (0 : Int32)), (.ref b)])) rfl rfl (hb hby at_21)
    refine Go.of st15 ?_
    have Zs := Nat.le_trans Zs (Nat.le_of_eq W15.size.symm)
    have Kp := Kp.wr W15 (Or.inr sz_b)
    have E_b := E_b.wr W15
    have A_b : AF Z h15 b k14 .byte 2 (fun i => .int ((upI (fun _ => (0 : Int32)) 0 ((x3.toInt8.toInt32).toInt8.toInt32)) i)) := A15'.toI
    have N15 := Fr.snoc X15 N0 g_b
    show Go _ _ _ _ _ _ _ (T15.setTop (mkF m 22 #[.val (.int x1), .val (.int x2), .val (.int x3), .val (.int x4), .val (.int x5), .val (.int (2 : Int32)), .val (.ref b), .unset, .unset, .unset, .unset, .unset] []))
    refine Go.of (fun _ q => XS.iload X15.here hx rfl (hb hby at_22) rfl q) ?_
    show Go _ _ _ _ _ _ _ (T15.setTop (mkF m 24 #[.val (.int x1), .val (.int x2), .val (.int x3), .val (.int x4), .val (.int x5), .val (.int (2 : Int32)), .val (.ref b), .unset, .unset, .unset, .unset, .unset] [(.int (2 : Int32))]))
    refine Go.of (fun _ q => XS.iconst X15.here hx rfl (hb hby at_24) q) ?_
    show Go _ _ _ _ _ _ _ (T15.setTop (mkF m 25 #[.val (.int x1), .val (.int x2), .val (.int x3), .val (.int x4), .val (.int x5), .val (.int (2 : Int32)), .val (.ref b), .unset, .unset, .unset, .unset, .unset] [(.int (1 : Int32)), (.int (2 : Int32))]))
    refine Go.of (fun _ q => XS.icmpNo X15.here hx rfl (hb hby at_25) rfl (tlt (by decide)).2.2.2 q) ?_
    show Go _ _ _ _ _ _ _ (T15.setTop (mkF m 28 #[.val (.int x1), .val (.int x2), .val (.int x3), .val (.int x4), .val (.int x5), .val (.int (2 : Int32)), .val (.ref b), .unset, .unset, .unset, .unset, .unset] []))
    refine Go.of (fun _ q => XS.aload X15.here hx rfl (hb hby at_28) rfl rfl q) ?_
    show Go _ _ _ _ _ _ _ (T15.setTop (mkF m 30 #[.val (.int x1), .val (.int x2), .val (.int x3), .val (.int x4), .val (.int x5), .val (.int (2 : Int32)), .val (.ref b), .unset, .unset, .unset, .unset, .unset] [(.ref b)]))
    refine Go.of (fun _ q => XS.iconst X15.here hx rfl (hb hby at_30) q) ?_
    show Go _ _ _ _ _ _ _ (T15.setTop (mkF m 31 #[.val (.int x1), .val (.int x2), .val (.int x3), .val (.int x4), .val (.int x5), .val (.int (2 : Int32)), .val (.ref b), .unset, .unset, .unset, .unset, .unset] [(.int (1 : Int32)), (.ref b)]))
    refine Go.of (fun _ q => XS.iloadN X15.here hx rfl (hb hby at_31) rfl q) ?_
    show Go _ _ _ _ _ _ _ (T15.setTop (mkF m 32 #[.val (.int x1), .val (.int x2), .val (.int x3), .val (.int x4), .val (.int x5), .val (.int (2 : Int32)), .val (.ref b), .unset, .unset, .unset, .unset, .unset] [(.int x4), (.int (1 : Int32)), (.ref b)]))
    refine Go.of (fun _ q => XS.i2b X15.here hx rfl (hb hby at_32) rfl q) ?_
    show Go _ _ _ _ _ _ _ (T15.setTop (mkF m 33 #[.val (.int x1), .val (.int x2), .val (.int x3), .val (.int x4), .val (.int x5), .val (.int (2 : Int32)), .val (.ref b), .unset, .unset, .unset, .unset, .unset] [(.int (x4.toInt8.toInt32)), (.int (1 : Int32)), (.ref b)]))
    obtain ⟨T16, h16, X16, e16, W16, A16', st16⟩ := AF.bastore A_b X15 hx hZ e15 (i := 1) ⟨rfl, by decide, by decide⟩ (g := (mkF m 33 #[.val (.int x1), .val (.int x2), .val (.int x3), .val (.int x4), .val (.int x5), .val (.int (2 : Int32)), .val (.ref b), .unset, .unset, .unset, .unset, .unset] [(.int (x4.toInt8.toInt32)), (.int (1 : Int32)), (.ref b)])) rfl rfl (hb hby at_33)
    refine Go.of st16 ?_
    have Zs := Nat.le_trans Zs (Nat.le_of_eq W16.size.symm)
    have Kp := Kp.wr W16 (Or.inr sz_b)
    have E_b := E_b.wr W16
    have A_b : AF Z h16 b k14 .byte 2 (fun i => .int ((upI (upI (fun _ => (0 : Int32)) 0 ((x3.toInt8.toInt32).toInt8.toInt32)) 1 ((x4.toInt8.toInt32).toInt8.toInt32)) i)) := A16'.toI
    have N16 := Fr.snoc X16 N15 g_b
    show Go _ _ _ _ _ _ _ (T16.setTop (mkF m 34 #[.val (.int x1), .val (.int x2), .val (.int x3), .val (.int x4), .val (.int x5), .val (.int (2 : Int32)), .val (.ref b), .unset, .unset, .unset, .unset, .unset] []))
    refine Go.of (fun _ q => XS.iload X16.here hx rfl (hb hby at_34) rfl q) ?_
    show Go _ _ _ _ _ _ _ (T16.setTop (mkF m 36 #[.val (.int x1), .val (.int x2), .val (.int x3), .val (.int x4), .val (.int x5), .val (.int (2 : Int32)), .val (.ref b), .unset, .unset, .unset, .unset, .unset] [(.int (2 : Int32))]))
    refine Go.of (fun _ q => XS.iconst X16.here hx rfl (hb hby at_36) q) ?_
    show Go _ _ _ _ _ _ _ (T16.setTop (mkF m 37 #[.val (.int x1), .val (.int x2), .val (.int x3), .val (.int x4), .val (.int x5), .val (.int (2 : Int32)), .val (.ref b), .unset, .unset, .unset, .unset, .unset] [(.int (2 : Int32)), (.int (2 : Int32))]))
    refine Go.of (fun _ q => XS.icmpYes X16.here hx rfl (pc0 := 37) (pc' := 47) rfl (hb hby at_37) rfl (flt (by decide)).2.2.2 (by decide) (by decide) q) ?_
    show Go _ _ _ _ _ _ _ (T16.setTop (mkF m 47 #[.val (.int x1), .val (.int x2), .val (.int x3), .val (.int x4), .val (.int x5), .val (.int (2 : Int32)), .val (.ref b), .unset, .unset, .unset, .unset, .unset] []))
    obtain ⟨T17, h17, X17, e17, E17, A17, D17, -, st17⟩ := newO X16 hx hZ hown (hw _ (List.mem_of_getElem? (i := 1) rfl)) (hw _ (List.mem_of_getElem? (i := 2) rfl)) (hw _ (List.mem_of_getElem? (i := 3) rfl)) e16 (g := (mkF m 47 #[.val (.int x1), .val (.int x2), .val (.int x3), .val (.int x4), .val (.int x5), .val (.int (2 : Int32)), .val (.ref b), .unset, .unset, .unset, .unset, .unset] [])) rfl (hb hby at_47) (by decide) (by decide)
    obtain ⟨a, g17⟩ : ∃ z, z = h16.size := ⟨_, rfl⟩
    rw [← g17] at A17 D17 st17
    refine Go.of st17 ?_
    have g_a : n0 ≤ a := Nat.le_trans Zs (Nat.le_of_eq g17.symm)
    have sz_a : h0.size ≤ a := Nat.le_trans Kp.1 (Nat.le_of_eq g17.symm)
    have ne_b_a : b ≠ a := Nat.ne_of_lt (Nat.lt_of_lt_of_le E_b.lt (Nat.le_of_eq g17.symm))
    have Zs := Nat.le_trans Zs E17.1
    have Kp := Kp.ext E17
    have E_b := E_b.ext E17
    have A_b := A_b.ext E17
    have E_a := A17
    have F_a_tree : Fld Z h17 a "com/example/latchwork/latchwork/Key" "tree" "I" (.int (0 : Int32)) := D17 (Or.inr (hw _ (List.mem_of_getElem? (i := 11) rfl))) (ty := .int) (by decide)
    have F_a_bytes : Fld Z h17 a "com/example/latchwork/latchwork/Key" "bytes" "[B" .null := D17 (Or.inr (hw _ (List.mem_of_getElem? (i := 13) rfl))) (ty := (.array .byte)) (by decide)
    have F_a_hash : Fld Z h17 a "com/example/latchwork/latchwork/Key" "hash" "I" (.int (0 : Int32)) := D17 (Or.inr (hw _ (List.mem_of_getElem? (i := 28) rfl))) (ty := .int) (by decide)
    show Go _ _ _ _ _ _ _ (T17.setTop (mkF m 50 #[.val (.int x1), .val (.int x2), .val (.int x3), .val (.int x4), .val (.int x5), .val (.int (2 : Int32)), .val (.ref b), .unset, .unset, .unset, .unset, .unset] [(.ref a)]))
    refine Go.of (fun _ q => XS.dup X17.here hx rfl (hb hby at_50) rfl rfl q) ?_
    show Go _ _ _ _ _ _ _ (T17.setTop (mkF m 51 #[.val (.int x1), .val (.int x2), .val (.int x3), .val (.int x4), .val (.int x5), .val (.int (2 : Int32)), .val (.ref b), .unset, .unset, .unset, .unset, .unset] [(.ref a), (.ref a)]))
    refine Go.of (fun _ q => XS.iloadN X17.here hx rfl (hb hby at_51) rfl q) ?_
    show Go _ _ _ _ _ _ _ (T17.setTop (mkF m 52 #[.val (.int x1), .val (.int x2), .val (.int x3), .val (.int x4), .val (.int x5), .val (.int (2 : Int32)), .val (.ref b), .unset, .unset, .unset, .unset, .unset] [(.int x1), (.ref a), (.ref a)]))
    refine Go.of (fun _ q => XS.aload X17.here hx rfl (hb hby at_52) rfl rfl q) ?_
    show Go _ _ _ _ _ _ _ (T17.setTop (mkF m 54 #[.val (.int x1), .val (.int x2), .val (.int x3), .val (.int x4), .val (.int x5), .val (.int (2 : Int32)), .val (.ref b), .unset, .unset, .unset, .unset, .unset] [(.ref b), (.int x1), (.ref a), (.ref a)]))
    refine Go.special X17 hx hZ (y := (⟨"com/example/latchwork/latchwork/Key", "<init>", "(I[B)V"⟩ : MethodName)) (a := a) (argsL := [(.int x1), (.ref b)]) rfl hown (hw _ (List.mem_of_getElem? (i := 4) rfl)) (hw _ (List.mem_of_getElem? (i := 5) rfl)) (hw _ (List.mem_of_getElem? (i := 3) rfl)) (hw _ (List.mem_of_getElem? (i := 6) rfl)) (by decide) 1 e17 (rm1_2 l Z a0 hw a x1 b k14 (upI (upI (fun _ => (0 : Int32)) 0 ((x3.toInt8.toInt32).toInt8.toInt32)) 1 ((x4.toInt8.toInt32).toInt8.toInt32)) (0 : Int32) .null (0 : Int32) h17 n0 Zs E_a F_a_tree F_a_bytes F_a_hash g_a A_b E_b ne_b_a) (by decide) (by decide) (by decide) (by decide) (g := (mkF m 54 #[.val (.int x1), .val (.int x2), .val (.int x3), .val (.int x4), .val (.int x5), .val (.int (2 : Int32)), .val (.ref b), .unset, .unset, .unset, .unset, .unset] [(.ref b), (.int x1), (.ref a), (.ref a)])) rfl (by rw [hml]; rfl) (rest := [(.ref a)]) (lenOf pd3 rfl) rfl (by show 2 * 0 + _ ≤ _; exact Nat.le_of_eq rfl) (hb hby at_54) ?_
    intro T18 v18 L18 X18 q18
    obtain ⟨rfl, Nq18, K18, f18_0, f18_1⟩ := q18
    have N18 := Fr.app N16 Nq18
    have Zs := Nat.le_trans Zs K18.1
    have Kp := Kp.trans K18 (allS (P := fun x => x ∈ [] ∨ h0.size ≤ x) (Or.inr sz_a) all0)
    have E_b := E_b.keep K18
    have A_b := A_b.keep K18 (ninS ne_b_a nin0)
    have E_a := E_a.keep K18
    have F_a_bytes := f18_1
    show Go _ _ _ _ _ _ _ (T18.setTop (mkF m 57 #[.val (.int x1), .val (.int x2), .val (.int x3), .val (.int x4), .val (.int x5), .val (.int (2 : Int32)), .val (.ref b), .unset, .unset, .unset, .unset, .unset] [(.ref a)]))
    refine Go.of (fun _ q => XS.astore X18.here hx rfl (hb hby at_57) rfl rfl (l' := #[.val (.int x1), .val (.int x2), .val (.int x3), .val (.int x4), .val (.int x5), .val (.int (2 : Int32)), .val (.ref b), .val (.ref a), .unset, .unset, .unset, .unset]) rfl q) ?_
    show Go _ _ _ _ _ _ _ (T18.setTop (mkF m 59 #[.val (.int x1), .val (.int x2), .val (.int x3), .val (.int x4), .val (.int x5), .val (.int (2 : Int32)), .val (.ref b), .val (.ref a), .unset, .unset, .unset, .unset] []))
    refine Go.of (fun _ q => XS.iload X18.here hx rfl (hb hby at_59) rfl q) ?_
    show Go _ _ _ _ _ _ _ (T18.setTop (mkF m 61 #[.val (.int x1), .val (.int x2), .val (.int x3), .val (.int x4), .val (.int x5), .val (.int (2 : Int32)), .val (.ref b), .val (.ref a), .unset, .unset, .unset, .unset] [(.int (2 : Int32))]))
    refine Go.of (fun _ q => XS.ifYes X18.here hx rfl (pc0 := 61) (pc' := 68) rfl (hb hby at_61) rfl ((if0 _ _).trans (feq (by decide)).2) (by decide) (by decide) q) ?_
    show Go _ _ _ _ _ _ _ (T18.setTop (mkF m 68 #[.val (.int x1), .val (.int x2), .val (.int x3), .val (.int x4), .val (.int x5), .val (.int (2 : Int32)), .val (.ref b), .val (.ref a), .unset, .unset, .unset, .unset] []))
    refine Go.of (fun _ q => XS.iconst X18.here hx rfl (hb hby at_68) q) ?_
    show Go _ _ _ _ _ _ _ (T18.setTop (mkF m 69 #[.val (.int x1), .val (.int x2), .val (.int x3), .val (.int x4), .val (.int x5), .val (.int (2 : Int32)), .val (.ref b), .val (.ref a), .unset, .unset, .unset, .unset] [(.int (0 : Int32))]))
    refine Go.of (fun _ q => XS.istore X18.here hx rfl (hb hby at_69) rfl (l' := #[.val (.int x1), .val (.int x2), .val (.int x3), .val (.int x4), .val (.int x5), .val (.int (2 : Int32)), .val (.ref b), .val (.ref a), .val (.int (0 : Int32)), .unset, .unset, .unset]) rfl q) ?_
    show Go _ _ _ _ _ _ _ (T18.setTop (mkF m 71 #[.val (.int x1), .val (.int x2), .val (.int x3), .val (.int x4), .val (.int x5), .val (.int (2 : Int32)), .val (.ref b), .val (.ref a), .val (.int (0 : Int32)), .unset, .unset, .unset] []))
    refine Go.of (fun _ q => XS.aload X18.here hx rfl (hb hby at_71) rfl rfl q) ?_
    show Go _ _ _ _ _ _ _ (T18.setTop (mkF m 73 #[.val (.int x1), .val (.int x2), .val (.int x3), .val (.int x4), .val (.int x5), .val (.int (2 : Int32)), .val (.ref b), .val (.ref a), .val (.int (0 : Int32)), .unset, .unset, .unset] [(.ref a)]))
    refine Go.virtual X18 hx hZ (y := (⟨"com/example/latchwork/latchwork/Key", "isEnd", "()Z"⟩ : MethodName)) (z := (⟨"com/example/latchwork/latchwork/Key", "isEnd", "()Z"⟩ : MethodName)) (a := a) (argsL := []) hown (hw _ (List.mem_of_getElem? (i := 29) rfl)) (hw _ (List.mem_of_getElem? (i := 30) rfl)) (notFace_of_selects (args := #[]) (mvT hZ (hw _ (List.mem_of_getElem? (i := 32) rfl)))) (hw _ (List.mem_of_getElem? (i := 32) rfl)) (hw _ (List.mem_of_getElem? (i := 31) rfl)) (hw _ (List.mem_of_getElem? (i := 3) rfl)) (hw _ (List.mem_of_getElem? (i := 33) rfl)) (by decide) 0 rfl E_a (rm6_2 l Z a0 hw a b k14 (upI (upI (fun _ => (0 : Int32)) 0 ((x3.toInt8.toInt32).toInt8.toInt32)) 1 ((x4.toInt8.toInt32).toInt8.toInt32)) T18.heap n0 Zs F_a_bytes A_b) (by decide) (by decide) (by decide) (by decide) (g := (mkF m 73 #[.val (.int x1), .val (.int x2), .val (.int x3), .val (.int x4), .val (.int x5), .val (.int (2 : Int32)), .val (.ref b), .val (.ref a), .val (.int (0 : Int32)), .unset, .unset, .unset] [(.ref a)])) rfl (by rw [hml]; rfl) (rest := []) (lenOf pd4 rfl) rfl (by show 2 * 0 + _ ≤ _; exact Nat.le_of_eq rfl) (hb hby at_73) ?_
    intro T19 v19 L19 X19 q19
    obtain ⟨rfl, Nq19, e19⟩ := q19
    have N19 := Fr.app N18 Nq19
    show Go _ _ _ _ _ _ _ (T19.setTop (mkF m 76 #[.val (.int x1), .val (.int x2), .val (.int x3), .val (.int x4), .val (.int x5), .val (.int (2 : Int32)), .val (.ref b), .val (.ref a), .val (.int (0 : Int32)), .unset, .unset, .unset] [(.int (0 : Int32))]))
    refine Go.of (fun _ q => XS.iload X19.here hx rfl (hb hby at_76) rfl q) ?_
    show Go _ _ _ _ _ _ _ (T19.setTop (mkF m 78 #[.val (.int x1), .val (.int x2), .val (.int x3), .val (.int x4), .val (.int x5), .val (.int (2 : Int32)), .val (.ref b), .val (.ref a), .val (.int (0 : Int32)), .unset, .unset, .unset] [(.int (0 : Int32)), (.int (0 : Int32))]))
    refine Go.of (fun _ q => XS.icmpNo X19.here hx rfl (hb hby at_78) rfl (teq rfl).2 q) ?_
    show Go _ _ _ _ _ _ _ (T19.setTop (mkF m 81 #[.val (.int x1), .val (.int x2), .val (.int x3), .val (.int x4), .val (.int x5), .val (.int (2 : Int32)), .val (.ref b), .val (.ref a), .val (.int (0 : Int32)), .unset, .unset, .unset] []))
    refine Go.of (fun _ q => XS.iconst X19.here hx rfl (hb hby at_81) q) ?_
    show Go _ _ _ _ _ _ _ (T19.setTop (mkF m 82 #[.val (.int x1), .val (.int x2), .val (.int x3), .val (.int x4), .val (.int x5), .val (.int (2 : Int32)), .val (.ref b), .val (.ref a), .val (.int (0 : Int32)), .unset, .unset, .unset] [(.int (1 : Int32))]))
    refine Go.of (fun _ q => XS.goto X19.here hx rfl (pc0 := 82) (pc' := 86) rfl (hb hby at_82) (by decide) (by decide) q) ?_
    show Go _ _ _ _ _ _ _ (T19.setTop (mkF m 86 #[.val (.int x1), .val (.int x2), .val (.int x3), .val (.int x4), .val (.int x5), .val (.int (2 : Int32)), .val (.ref b), .val (.ref a), .val (.int (0 : Int32)), .unset, .unset, .unset] [(.int (1 : Int32))]))
    refine Go.of (fun _ q => XS.istore X19.here hx rfl (hb hby at_86) rfl (l' := #[.val (.int x1), .val (.int x2), .val (.int x3), .val (.int x4), .val (.int x5), .val (.int (2 : Int32)), .val (.ref b), .val (.ref a), .val (.int (0 : Int32)), .val (.int (1 : Int32)), .unset, .unset]) rfl q) ?_
    show Go _ _ _ _ _ _ _ (T19.setTop (mkF m 88 #[.val (.int x1), .val (.int x2), .val (.int x3), .val (.int x4), .val (.int x5), .val (.int (2 : Int32)), .val (.ref b), .val (.ref a), .val (.int (0 : Int32)), .val (.int (1 : Int32)), .unset, .unset] []))
    refine Go.of (fun _ q => XS.iloadN X19.here hx rfl (hb hby at_88) rfl q) ?_
    show Go _ _ _ _ _ _ _ (T19.setTop (mkF m 89 #[.val (.int x1), .val (.int x2), .val (.int x3), .val (.int x4), .val (.int x5), .val (.int (2 : Int32)), .val (.ref b), .val (.ref a), .val (.int (0 : Int32)), .val (.int (1 : Int32)), .unset, .unset] [(.int x1)]))
    refine Go.static X19 hx hZ (y := (⟨"com/example/latchwork/latchwork/Key", "end", "(I)Lcom/example/latchwork/latchwork/Key;"⟩ : MethodName)) (argsL := [(.int x1)]) hown (hw _ (List.mem_of_getElem? (i := 34) rfl)) (hw _ (List.mem_of_getElem? (i := 35) rfl)) (hw _ (List.mem_of_getElem? (i := 3) rfl)) (hw _ (List.mem_of_getElem? (i := 36) rfl)) (by decide) 0 e19 (rm7 l Z a0 hw x1 T18.heap n0 Zs ) (by decide) (by decide) (by decide) (by decide) (g := (mkF m 89 #[.val (.int x1), .val (.int x2), .val (.int x3), .val (.int x4), .val (.int x5), .val (.int (2 : Int32)), .val (.ref b), .val (.ref a), .val (.int (0 : Int32)), .val (.int (1 : Int32)), .unset, .unset] [(.int x1)])) rfl (by rw [hml]; rfl) (rest := []) (lenOf pd5 rfl) rfl (by show 2 * 0 + _ ≤ _; exact Nat.le_of_eq rfl) (hb hby at_89) ?_
    intro T20 v20 L20 X20 q20
    obtain ⟨a2, b2, kb2, gb2, rfl, Nq20, K20, f20_0, f20_1, f20_2, f20_3, f20_4, f20_5⟩ := q20
    have N20 := Fr.app N19 Nq20
    have g_a2 : n0 ≤ a2 := Nat.le_trans Zs f20_0
    have sz_a2 : h0.size ≤ a2 := Nat.le_trans Kp.1 f20_0
    have ne_b_a2 : b ≠ a2 := Nat.ne_of_lt (Nat.lt_of_lt_of_le E_b.lt f20_0)
    have ne_a_a2 : a ≠ a2 := Nat.ne_of_lt (Nat.lt_of_lt_of_le E_a.lt f20_0)
    have g_b2 : n0 ≤ b2 := Nat.le_trans Zs f20_1
    have sz_b2 : h0.size ≤ b2 := Nat.le_trans Kp.1 f20_1
    have ne_b_b2 : b ≠ b2 := Nat.ne_of_lt (Nat.lt_of_lt_of_le E_b.lt f20_1)
    have ne_a_b2 : a ≠ b2 := Nat.ne_of_lt (Nat.lt_of_lt_of_le E_a.lt f20_1)
    have Zs := Nat.le_trans Zs K20.1
    have Kp := Kp.trans K20 all0
    have E_b := E_b.keep K20
    have A_b := A_b.keep K20 nin0
    have E_a := E_a.keep K20
    have F_a_bytes := F_a_bytes.keep K20 nin0
    have E_a2 := f20_3
    have F_a2_bytes := f20_4
    have A_b2 := f20_5
    show Go _ _ _ _ _ _ _ (T20.setTop (mkF m 92 #[.val (.int x1), .val (.int x2), .val (.int x3), .val (.int x4), .val (.int x5), .val (.int (2 : Int32)), .val (.ref b), .val (.ref a), .val (.int (0 : Int32)), .val (.int (1 : Int32)), .unset, .unset] [(.ref a2)]))
    refine Go.of (fun _ q => XS.astore X20.here hx rfl (hb hby at_92) rfl rfl (l' := #[.val (.int x1), .val (.int x2), .val (.int x3), .val (.int x4), .val (.int x5), .val (.int (2 : Int32)), .val (.ref b), .val (.ref a), .val (.int (0 : Int32)), .val (.int (1 : Int32)), .val (.ref a2), .unset]) rfl q) ?_
    show Go _ _ _ _ _ _ _ (T20.setTop (mkF m 94 #[.val (.int x1), .val (.int x2), .val (.int x3), .val (.int x4), .val (.int x5), .val (.int (2 : Int32)), .val (.ref b), .val (.ref a), .val (.int (0 : Int32)), .val (.int (1 : Int32)), .val (.ref a2), .unset] []))
    refine Go.of (fun _ q => XS.aload X20.here hx rfl (hb hby at_94) rfl rfl q) ?_
    show Go _ _ _ _ _ _ _ (T20.setTop (mkF m 96 #[.val (.int x1), .val (.int x2), .val (.int x3), .val (.int x4), .val (.int x5), .val (.int (2 : Int32)), .val (.ref b), .val (.ref a), .val (.int (0 : Int32)), .val (.int (1 : Int32)), .val (.ref a2), .unset] [(.ref a2)]))
    refine Go.virtual X20 hx hZ (y := (⟨"com/example/latchwork/latchwork/Key", "isEnd", "()Z"⟩ : MethodName)) (z := (⟨"com/example/latchwork/latchwork/Key", "isEnd", "()Z"⟩ : MethodName)) (a := a2) (argsL := []) hown (hw _ (List.mem_of_getElem? (i := 29) rfl)) (hw _ (List.mem_of_getElem? (i := 30) rfl)) (notFace_of_selects (args := #[]) (mvT hZ (hw _ (List.mem_of_getElem? (i := 32) rfl)))) (hw _ (List.mem_of_getElem? (i := 32) rfl)) (hw _ (List.mem_of_getElem? (i := 31) rfl)) (hw _ (List.mem_of_getElem? (i := 3) rfl)) (hw _ (List.mem_of_getElem? (i := 33) rfl)) (by decide) 0 rfl E_a2 (rm6_0 l Z a0 hw a2 b2 kb2 gb2 T20.heap n0 Zs F_a2_bytes A_b2) (by decide) (by decide) (by decide) (by decide) (g := (mkF m 96 #[.val (.int x1), .val (.int x2), .val (.int x3), .val (.int x4), .val (.int x5), .val (.int (2 : Int32)), .val (.ref b), .val (.ref a), .val (.int (0 : Int32)), .val (.int (1 : Int32)), .val (.ref a2), .unset] [(.ref a2)])) rfl (by rw [hml]; rfl) (rest := []) (lenOf pd4 rfl) rfl (by show 2 * 0 + _ ≤ _; exact Nat.le_of_eq rfl) (hb hby at_96) ?_
    intro T21 v21 L21 X21 q21
    obtain ⟨rfl, Nq21, e21⟩ := q21
    have N21 := Fr.app N20 Nq21
    show Go _ _ _ _ _ _ _ (T21.setTop (mkF m 99 #[.val (.int x1), .val (.int x2), .val (.int x3), .val (.int x4), .val (.int x5), .val (.int (2 : Int32)), .val (.ref b), .val (.ref a), .val (.int (0 : Int32)), .val (.int (1 : Int32)), .val (.ref a2), .unset] [(.int (1 : Int32))]))
    refine Go.of (fun _ q => XS.istore X21.here hx rfl (hb hby at_99) rfl (l' := #[.val (.int x1), .val (.int x2), .val (.int x3), .val (.int x4), .val (.int x5), .val (.int (2 : Int32)), .val (.ref b), .val (.ref a), .val (.int (0 : Int32)), .val (.int (1 : Int32)), .val (.ref a2), .val (.int (1 : Int32))]) rfl q) ?_
    show Go _ _ _ _ _ _ _ (T21.setTop (mkF m 101 #[.val (.int x1), .val (.int x2), .val (.int x3), .val (.int x4), .val (.int x5), .val (.int (2 : Int32)), .val (.ref b), .val (.ref a), .val (.int (0 : Int32)), .val (.int (1 : Int32)), .val (.ref a2), .val (.int (1 : Int32))] []))
    refine Go.of (fun _ q => XS.iload X21.here hx rfl (hb hby at_101) rfl q) ?_
    show Go _ _ _ _ _ _ _ (T21.setTop (mkF m 103 #[.val (.int x1), .val (.int x2), .val (.int x3), .val (.int x4), .val (.int x5), .val (.int (2 : Int32)), .val (.ref b), .val (.ref a), .val (.int (0 : Int32)), .val (.int (1 : Int32)), .val (.ref a2), .val (.int (1 : Int32))] [(.int (1 : Int32))]))
    refine Go.of (fun _ q => XS.ifNo X21.here hx rfl (hb hby at_103) rfl ((if0 _ _).trans (feq (by decide)).1) q) ?_
    show Go _ _ _ _ _ _ _ (T21.setTop (mkF m 106 #[.val (.int x1), .val (.int x2), .val (.int x3), .val (.int x4), .val (.int x5), .val (.int (2 : Int32)), .val (.ref b), .val (.ref a), .val (.int (0 : Int32)), .val (.int (1 : Int32)), .val (.ref a2), .val (.int (1 : Int32))] []))
    refine Go.of (fun _ q => XS.iload X21.here hx rfl (hb hby at_106) rfl q) ?_
    show Go _ _ _ _ _ _ _ (T21.setTop (mkF m 108 #[.val (.int x1), .val (.int x2), .val (.int x3), .val (.int x4), .val (.int x5), .val (.int (2 : Int32)), .val (.ref b), .val (.ref a), .val (.int (0 : Int32)), .val (.int (1 : Int32)), .val (.ref a2), .val (.int (1 : Int32))] [(.int (1 : Int32))]))
    refine Go.of (fun _ q => XS.ifNo X21.here hx rfl (hb hby at_108) rfl ((if0 _ _).trans (feq (by decide)).1) q) ?_
    show Go _ _ _ _ _ _ _ (T21.setTop (mkF m 111 #[.val (.int x1), .val (.int x2), .val (.int x3), .val (.int x4), .val (.int x5), .val (.int (2 : Int32)), .val (.ref b), .val (.ref a), .val (.int (0 : Int32)), .val (.int (1 : Int32)), .val (.ref a2), .val (.int (1 : Int32))] []))
    refine Go.of (fun _ q => XS.iconst X21.here hx rfl (hb hby at_111) q) ?_
    show Go _ _ _ _ _ _ _ (T21.setTop (mkF m 112 #[.val (.int x1), .val (.int x2), .val (.int x3), .val (.int x4), .val (.int x5), .val (.int (2 : Int32)), .val (.ref b), .val (.ref a), .val (.int (0 : Int32)), .val (.int (1 : Int32)), .val (.ref a2), .val (.int (1 : Int32))] [(.int (1 : Int32))]))
    refine Go.of (fun _ q => XS.goto X21.here hx rfl (pc0 := 112) (pc' := 116) rfl (hb hby at_112) (by decide) (by decide) q) ?_
    show Go _ _ _ _ _ _ _ (T21.setTop (mkF m 116 #[.val (.int x1), .val (.int x2), .val (.int x3), .val (.int x4), .val (.int x5), .val (.int (2 : Int32)), .val (.ref b), .val (.ref a), .val (.int (0 : Int32)), .val (.int (1 : Int32)), .val (.ref a2), .val (.int (1 : Int32))] [(.int (1 : Int32))]))
    refine Go.retN X21 hx hlk (t := .boolean) hret (by simp) (hb hby at_116) rfl (by decide) (by decide) ?_
    rw [e21]
    exact ⟨rfl, N21⟩
  · rw [q3]
    show Go _ _ _ _ _ _ _ (s₁.setTop (mkF m 3 #[.val (.int x1), .val (.int x2), .val (.int x3), .val (.int x4), .val (.int x5), .unset, .unset, .unset, .unset, .unset, .unset, .unset] [(.int (3 : Int32))]))
    refine Go.of (fun _ q => XS.istore X0.here hx rfl (hb hby at_3) rfl (l' := #[.val (.int x1), .val (.int x2), .val (.int x3), .val (.int x4), .val (.int x5), .val (.int (3 : Int32)), .unset, .unset, .unset, .unset, .unset, .unset]) rfl q) ?_
    show Go _ _ _ _ _ _ _ (s₁.setTop (mkF m 5 #[.val (.int x1), .val (.int x2), .val (.int x3), .val (.int x4), .val (.int x5), .val (.int (3 : Int32)), .unset, .unset, .unset, .unset, .unset, .unset] []))
    refine Go.of (fun _ q => XS.iload X0.here hx rfl (hb hby at_5) rfl q) ?_
    show Go _ _ _ _ _ _ _ (s₁.setTop (mkF m 7 #[.val (.int x1), .val (.int x2), .val (.int x3), .val (.int x4), .val (.int x5), .val (.int (3 : Int32)), .unset, .unset, .unset, .unset, .unset, .unset] [(.int (3 : Int32))]))
    obtain ⟨T22, h22, k22, X22, e22, E22, A22, B22, st22⟩ := newPE X0 hx hZ (hw _ (List.mem_of_getElem? (i := 0) rfl)) e0 (g := (mkF m 7 #[.val (.int x1), .val (.int x2), .val (.int x3), .val (.int x4), .val (.int x5), .val (.int (3 : Int32)), .unset, .unset, .unset, .unset, .unset, .unset] [(.int (3 : Int32))])) rfl (hb hby at_7) rfl (by decide) (cap := 3) (by decide) (by decide) (by decide) (by decide) (ad := "[B") (by decide)
    obtain ⟨b, g22⟩ : ∃ z, z = h0.size := ⟨_, rfl⟩
    rw [← g22] at A22 B22 st22
    refine Go.of st22 ?_
    have g_b : n0 ≤ b := Nat.le_trans Zs (Nat.le_of_eq g22.symm)
    have sz_b : h0.size ≤ b := Nat.le_trans Kp.1 (Nat.le_of_eq g22.symm)
    have Zs := Nat.le_trans Zs E22.1
    have Kp := Kp.ext E22
    have E_b := B22
    have A_b : AF Z h22 b k22 .byte 3 (fun i => .int ((fun _ => (0 : Int32)) i)) := AF.new A22 (by decide) rfl rfl
    show Go _ _ _ _ _ _ _ (T22.setTop (mkF m 9 #[.val (.int x1), .val (.int x2), .val (.int x3), .val (.int x4), .val (.int x5), .val (.int (3 : Int32)), .unset, .unset, .unset, .unset, .unset, .unset] [(.ref b)]))
    refine Go.of (fun _ q => XS.astore X22.here hx rfl (hb hby at_9) rfl rfl (l' := #[.val (.int x1), .val (.int x2), .val (.int x3), .val (.int x4), .val (.int x5), .val (.int (3 : Int32)), .val (.ref b), .unset, .unset, .unset, .unset, .unset]) rfl q) ?_
    show Go _ _ _ _ _ _ _ (T22.setTop (mkF m 11 #[.val (.int x1), .val (.int x2), .val (.int x3), .val (.int x4), .val (.int x5), .val (.int (3 : Int32)), .val (.ref b), .unset, .unset, .unset, .unset, .unset] []))
    refine Go.of (fun _ q => XS.iload X22.here hx rfl (hb hby at_11) rfl q) ?_
    show Go _ _ _ _ _ _ _ (T22.setTop (mkF m 13 #[.val (.int x1), .val (.int x2), .val (.int x3), .val (.int x4), .val (.int x5), .val (.int (3 : Int32)), .val (.ref b), .unset, .unset, .unset, .unset, .unset] [(.int (3 : Int32))]))
    refine Go.of (fun _ q => XS.ifNo X22.here hx rfl (hb hby at_13) rfl ((if0 _ _).trans (tlt (by decide)).2.2.2) q) ?_
    show Go _ _ _ _ _ _ _ (T22.setTop (mkF m 16 #[.val (.int x1), .val (.int x2), .val (.int x3), .val (.int x4), .val (.int x5), .val (.int (3 : Int32)), .val (.ref b), .unset, .unset, .unset, .unset, .unset] []))
    refine Go.of (fun _ q => XS.aload X22.here hx rfl (hb hby at_16) rfl rfl q) ?_
    show Go _ _ _ _ _ _ _ (T22.setTop (mkF m 18 #[.val (.int x1), .val (.int x2), .val (.int x3), .val (.int x4), .val (.int x5), .val (.int (3 : Int32)), .val (.ref b), .unset, .unset, .unset, .unset, .unset] [(.ref b)]))
    refine Go.of (fun _ q => XS.iconst X22.here hx rfl (hb hby at_18) q) ?_
    show Go _ _ _ _ _ _ _ (T22.setTop (mkF m 19 #[.val (.int x1), .val (.int x2), .val (.int x3), .val (.int x4), .val (.int x5), .val (.int (3 : Int32)), .val (.ref b), .unset, .unset, .unset, .unset, .unset] [(.int (0 : Int32)), (.ref b)]))
    refine Go.of (fun _ q => XS.iloadN X22.here hx rfl (hb hby at_19) rfl q) ?_
    show Go _ _ _ _ _ _ _ (T22.setTop (mkF m 20 #[.val (.int x1), .val (.int x2), .val (.int x3), .val (.int x4), .val (.int x5), .val (.int (3 : Int32)), .val (.ref b), .unset, .unset, .unset, .unset, .unset] [(.int x3), (.int (0 : Int32)), (.ref b)]))
    refine Go.of (fun _ q => XS.i2b X22.here hx rfl (hb hby at_20) rfl q) ?_
    show Go _ _ _ _ _ _ _ (T22.setTop (mkF m 21 #[.val (.int x1), .val (.int x2), .val (.int x3), .val (.int x4), .val (.int x5), .val (.int (3 : Int32)), .val (.ref b), .unset, .unset, .unset, .unset, .unset] [(.int (x3.toInt8.toInt32)), (.int (0 : Int32)), (.ref b)]))
    obtain ⟨T23, h23, X23, e23, W23, A23', st23⟩ := AF.bastore A_b X22 hx hZ e22 (i := 0) ⟨rfl, by decide, by decide⟩ (g := (mkF m 21 #[.val (.int x1), .val (.int x2), .val (.int x3), .val (.int x4), .val (.int x5), .val (.int (3 : Int32)), .val (.ref b), .unset, .unset, .unset, .unset, .unset] [(.int (x3.toInt8.toInt32)), (.int (0 : Int32)), (.ref b)])) rfl rfl (hb hby at_21)
    refine Go.of st23 ?_
    have Zs := Nat.le_trans Zs (Nat.le_of_eq W23.size.symm)
    have Kp := Kp.wr W23 (Or.inr sz_b)
    have E_b := E_b.wr W23
    have A_b : AF Z h23 b k22 .byte 3 (fun i => .int ((upI (fun _ => (0 : Int32)) 0 ((x3.toInt8.toInt32).toInt8.toInt32)) i)) := A23'.toI
    have N23 := Fr.snoc X23 N0 g_b
    show Go _ _ _ _ _ _ _ (T23.setTop (mkF m 22 #[.val (.int x1), .val (.int x2), .val (.int x3), .val (.int x4), .val (.int x5), .val (.int (3 : Int32)), .val (.ref b), .unset, .unset, .unset, .unset, .unset] []))
    refine Go.of (fun _ q => XS.iload X23.here hx rfl (hb hby at_22) rfl q) ?_
    show Go _ _ _ _ _ _ _ (T23.setTop (mkF m 24 #[.val (.int x1), .val (.int x2), .val (.int x3), .val (.int x4), .val (.int x5), .val (.int (3 : Int32)), .val (.ref b), .unset, .unset, .unset, .unset, .unset] [(.int (3 : Int32))]))
    refine Go.of (fun _ q => XS.iconst X23.here hx rfl (hb hby at_24) q) ?_
    show Go _ _ _ _ _ _ _ (T23.setTop (mkF m 25 #[.val (.int x1), .val (.int x2), .val (.int x3), .val (.int x4), .val (.int x5), .val (.int (3 : Int32)), .val (.ref b), .unset, .unset, .unset, .unset, .unset] [(.int (1 : Int32)), (.int (3 : Int32))]))
    refine Go.of (fun _ q => XS.icmpNo X23.here hx rfl (hb hby at_25) rfl (tlt (by decide)).2.2.2 q) ?_
    show Go _ _ _ _ _ _ _ (T23.setTop (mkF m 28 #[.val (.int x1), .val (.int x2), .val (.int x3), .val (.int x4), .val (.int x5), .val (.int (3 : Int32)), .val (.ref b), .unset, .unset, .unset, .unset, .unset] []))
    refine Go.of (fun _ q => XS.aload X23.here hx rfl (hb hby at_28) rfl rfl q) ?_
    show Go _ _ _ _ _ _ _ (T23.setTop (mkF m 30 #[.val (.int x1), .val (.int x2), .val (.int x3), .val (.int x4), .val (.int x5), .val (.int (3 : Int32)), .val (.ref b), .unset, .unset, .unset, .unset, .unset] [(.ref b)]))
    refine Go.of (fun _ q => XS.iconst X23.here hx rfl (hb hby at_30) q) ?_
    show Go _ _ _ _ _ _ _ (T23.setTop (mkF m 31 #[.val (.int x1), .val (.int x2), .val (.int x3), .val (.int x4), .val (.int x5), .val (.int (3 : Int32)), .val (.ref b), .unset, .unset, .unset, .unset, .unset] [(.int (1 : Int32)), (.ref b)]))
    refine Go.of (fun _ q => XS.iloadN X23.here hx rfl (hb hby at_31) rfl q) ?_
    show Go _ _ _ _ _ _ _ (T23.setTop (mkF m 32 #[.val (.int x1), .val (.int x2), .val (.int x3), .val (.int x4), .val (.int x5), .val (.int (3 : Int32)), .val (.ref b), .unset, .unset, .unset, .unset, .unset] [(.int x4), (.int (1 : Int32)), (.ref b)]))
    refine Go.of (fun _ q => XS.i2b X23.here hx rfl (hb hby at_32) rfl q) ?_
    show Go _ _ _ _ _ _ _ (T23.setTop (mkF m 33 #[.val (.int x1), .val (.int x2), .val (.int x3), .val (.int x4), .val (.int x5), .val (.int (3 : Int32)), .val (.ref b), .unset, .unset, .unset, .unset, .unset] [(.int (x4.toInt8.toInt32)), (.int (1 : Int32)), (.ref b)]))
    obtain ⟨T24, h24, X24, e24, W24, A24', st24⟩ := AF.bastore A_b X23 hx hZ e23 (i := 1) ⟨rfl, by decide, by decide⟩ (g := (mkF m 33 #[.val (.int x1), .val (.int x2), .val (.int x3), .val (.int x4), .val (.int x5), .val (.int (3 : Int32)), .val (.ref b), .unset, .unset, .unset, .unset, .unset] [(.int (x4.toInt8.toInt32)), (.int (1 : Int32)), (.ref b)])) rfl rfl (hb hby at_33)
    refine Go.of st24 ?_
    have Zs := Nat.le_trans Zs (Nat.le_of_eq W24.size.symm)
    have Kp := Kp.wr W24 (Or.inr sz_b)
    have E_b := E_b.wr W24
    have A_b : AF Z h24 b k22 .byte 3 (fun i => .int ((upI (upI (fun _ => (0 : Int32)) 0 ((x3.toInt8.toInt32).toInt8.toInt32)) 1 ((x4.toInt8.toInt32).toInt8.toInt32)) i)) := A24'.toI
    have N24 := Fr.snoc X24 N23 g_b
    show Go _ _ _ _ _ _ _ (T24.setTop (mkF m 34 #[.val (.int x1), .val (.int x2), .val (.int x3), .val (.int x4), .val (.int x5), .val (.int (3 : Int32)), .val (.ref b), .unset, .unset, .unset, .unset, .unset] []))
    refine Go.of (fun _ q => XS.iload X24.here hx rfl (hb hby at_34) rfl q) ?_
    show Go _ _ _ _ _ _ _ (T24.setTop (mkF m 36 #[.val (.int x1), .val (.int x2), .val (.int x3), .val (.int x4), .val (.int x5), .val (.int (3 : Int32)), .val (.ref b), .unset, .unset, .unset, .unset, .unset] [(.int (3 : Int32))]))
    refine Go.of (fun _ q => XS.iconst X24.here hx rfl (hb hby at_36) q) ?_
    show Go _ _ _ _ _ _ _ (T24.setTop (mkF m 37 #[.val (.int x1), .val (.int x2), .val (.int x3), .val (.int x4), .val (.int x5), .val (.int (3 : Int32)), .val (.ref b), .unset, .unset, .unset, .unset, .unset] [(.int (2 : Int32)), (.int (3 : Int32))]))
    refine Go.of (fun _ q => XS.icmpNo X24.here hx rfl (hb hby at_37) rfl (tlt (by decide)).2.2.2 q) ?_
    show Go _ _ _ _ _ _ _ (T24.setTop (mkF m 40 #[.val (.int x1), .val (.int x2), .val (.int x3), .val (.int x4), .val (.int x5), .val (.int (3 : Int32)), .val (.ref b), .unset, .unset, .unset, .unset, .unset] []))
    refine Go.of (fun _ q => XS.aload X24.here hx rfl (hb hby at_40) rfl rfl q) ?_
    show Go _ _ _ _ _ _ _ (T24.setTop (mkF m 42 #[.val (.int x1), .val (.int x2), .val (.int x3), .val (.int x4), .val (.int x5), .val (.int (3 : Int32)), .val (.ref b), .unset, .unset, .unset, .unset, .unset] [(.ref b)]))
    refine Go.of (fun _ q => XS.iconst X24.here hx rfl (hb hby at_42) q) ?_
    show Go _ _ _ _ _ _ _ (T24.setTop (mkF m 43 #[.val (.int x1), .val (.int x2), .val (.int x3), .val (.int x4), .val (.int x5), .val (.int (3 : Int32)), .val (.ref b), .unset, .unset, .unset, .unset, .unset] [(.int (2 : Int32)), (.ref b)]))
    refine Go.of (fun _ q => XS.iload X24.here hx rfl (hb hby at_43) rfl q) ?_
    show Go _ _ _ _ _ _ _ (T24.setTop (mkF m 45 #[.val (.int x1), .val (.int x2), .val (.int x3), .val (.int x4), .val (.int x5), .val (.int (3 : Int32)), .val (.ref b), .unset, .unset, .unset, .unset, .unset] [(.int x5), (.int (2 : Int32)), (.ref b)]))
    refine Go.of (fun _ q => XS.i2b X24.here hx rfl (hb hby at_45) rfl q) ?_
    show Go _ _ _ _ _ _ _ (T24.setTop (mkF m 46 #[.val (.int x1), .val (.int x2), .val (.int x3), .val (.int x4), .val (.int x5), .val (.int (3 : Int32)), .val (.ref b), .unset, .unset, .unset, .unset, .unset] [(.int (x5.toInt8.toInt32)), (.int (2 : Int32)), (.ref b)]))
    obtain ⟨T25, h25, X25, e25, W25, A25', st25⟩ := AF.bastore A_b X24 hx hZ e24 (i := 2) ⟨rfl, by decide, by decide⟩ (g := (mkF m 46 #[.val (.int x1), .val (.int x2), .val (.int x3), .val (.int x4), .val (.int x5), .val (.int (3 : Int32)), .val (.ref b), .unset, .unset, .unset, .unset, .unset] [(.int (x5.toInt8.toInt32)), (.int (2 : Int32)), (.ref b)])) rfl rfl (hb hby at_46)
    refine Go.of st25 ?_
    have Zs := Nat.le_trans Zs (Nat.le_of_eq W25.size.symm)
    have Kp := Kp.wr W25 (Or.inr sz_b)
    have E_b := E_b.wr W25
    have A_b : AF Z h25 b k22 .byte 3 (fun i => .int ((upI (upI (upI (fun _ => (0 : Int32)) 0 ((x3.toInt8.toInt32).toInt8.toInt32)) 1 ((x4.toInt8.toInt32).toInt8.toInt32)) 2 ((x5.toInt8.toInt32).toInt8.toInt32)) i)) := A25'.toI
    have N25 := Fr.snoc X25 N24 g_b
    show Go _ _ _ _ _ _ _ (T25.setTop (mkF m 47 #[.val (.int x1), .val (.int x2), .val (.int x3), .val (.int x4), .val (.int x5), .val (.int (3 : Int32)), .val (.ref b), .unset, .unset, .unset, .unset, .unset] []))
    obtain ⟨T26, h26, X26, e26, E26, A26, D26, -, st26⟩ := newO X25 hx hZ hown (hw _ (List.mem_of_getElem? (i := 1) rfl)) (hw _ (List.mem_of_getElem? (i := 2) rfl)) (hw _ (List.mem_of_getElem? (i := 3) rfl)) e25 (g := (mkF m 47 #[.val (.int x1), .val (.int x2), .val (.int x3), .val (.int x4), .val (.int x5), .val (.int (3 : Int32)), .val (.ref b), .unset, .unset, .unset, .unset, .unset] [])) rfl (hb hby at_47) (by decide) (by decide)
    obtain ⟨a, g26⟩ : ∃ z, z = h25.size := ⟨_, rfl⟩
    rw [← g26] at A26 D26 st26
    refine Go.of st26 ?_
    have g_a : n0 ≤ a := Nat.le_trans Zs (Nat.le_of_eq g26.symm)
    have sz_a : h0.size ≤ a := Nat.le_trans Kp.1 (Nat.le_of_eq g26.symm)
    have ne_b_a : b ≠ a := Nat.ne_of_lt (Nat.lt_of_lt_of_le E_b.lt (Nat.le_of_eq g26.symm))
    have Zs := Nat.le_trans Zs E26.1
    have Kp := Kp.ext E26
    have E_b := E_b.ext E26
    have A_b := A_b.ext E26
    have E_a := A26
    have F_a_tree : Fld Z h26 a "com/example/latchwork/latchwork/Key" "tree" "I" (.int (0 : Int32)) := D26 (Or.inr (hw _ (List.mem_of_getElem? (i := 11) rfl))) (ty := .int) (by decide)
    have F_a_bytes : Fld Z h26 a "com/example/latchwork/latchwork/Key" "bytes" "[B" .null := D26 (Or.inr (hw _ (List.mem_of_getElem? (i := 13) rfl))) (ty := (.array .byte)) (by decide)
    have F_a_hash : Fld Z h26 a "com/example/latchwork/latchwork/Key" "hash" "I" (.int (0 : Int32)) := D26 (Or.inr (hw _ (List.mem_of_getElem? (i := 28) rfl))) (ty := .int) (by decide)
    show Go _ _ _ _ _ _ _ (T26.setTop (mkF m 50 #[.val (.int x1), .val (.int x2), .val (.int x3), .val (.int x4), .val (.int x5), .val (.int (3 : Int32)), .val (.ref b), .unset, .unset, .unset, .unset, .unset] [(.ref a)]))
    refine Go.of (fun _ q => XS.dup X26.here hx rfl (hb hby at_50) rfl rfl q) ?_
    show Go _ _ _ _ _ _ _ (T26.setTop (mkF m 51 #[.val (.int x1), .val (.int x2), .val (.int x3), .val (.int x4), .val (.int x5), .val (.int (3 : Int32)), .val (.ref b), .unset, .unset, .unset, .unset, .unset] [(.ref a), (.ref a)]))
    refine Go.of (fun _ q => XS.iloadN X26.here hx rfl (hb hby at_51) rfl q) ?_
    show Go _ _ _ _ _ _ _ (T26.setTop (mkF m 52 #[.val (.int x1), .val (.int x2), .val (.int x3), .val (.int x4), .val (.int x5), .val (.int (3 : Int32)), .val (.ref b), .unset, .unset, .unset, .unset, .unset] [(.int x1), (.ref a), (.ref a)]))
    refine Go.of (fun _ q => XS.aload X26.here hx rfl (hb hby at_52) rfl rfl q) ?_
    show Go _ _ _ _ _ _ _ (T26.setTop (mkF m 54 #[.val (.int x1), .val (.int x2), .val (.int x3), .val (.int x4), .val (.int x5), .val (.int (3 : Int32)), .val (.ref b), .unset, .unset, .unset, .unset, .unset] [(.ref b), (.int x1), (.ref a), (.ref a)]))
    refine Go.special X26 hx hZ (y := (⟨"com/example/latchwork/latchwork/Key", "<init>", "(I[B)V"⟩ : MethodName)) (a := a) (argsL := [(.int x1), (.ref b)]) rfl hown (hw _ (List.mem_of_getElem? (i := 4) rfl)) (hw _ (List.mem_of_getElem? (i := 5) rfl)) (hw _ (List.mem_of_getElem? (i := 3) rfl)) (hw _ (List.mem_of_getElem? (i := 6) rfl)) (by decide) 1 e26 (rm1_3 l Z a0 hw a x1 b k22 (upI (upI (upI (fun _ => (0 : Int32)) 0 ((x3.toInt8.toInt32).toInt8.toInt32)) 1 ((x4.toInt8.toInt32).toInt8.toInt32)) 2 ((x5.toInt8.toInt32).toInt8.toInt32)) (0 : Int32) .null (0 : Int32) h26 n0 Zs E_a F_a_tree F_a_bytes F_a_hash g_a A_b E_b ne_b_a) (by decide) (by decide) (by decide) (by decide) (g := (mkF m 54 #[.val (.int x1), .val (.int x2), .val (.int x3), .val (.int x4), .val (.int x5), .val (.int (3 : Int32)), .val (.ref b), .unset, .unset, .unset, .unset, .unset] [(.ref b), (.int x1), (.ref a), (.ref a)])) rfl (by rw [hml]; rfl) (rest := [(.ref a)]) (lenOf pd3 rfl) rfl (by show 2 * 0 + _ ≤ _; exact Nat.le_of_eq rfl) (hb hby at_54) ?_
    intro T27 v27 L27 X27 q27
    obtain ⟨rfl, Nq27, K27, f27_0, f27_1⟩ := q27
    have N27 := Fr.app N25 Nq27
    have Zs := Nat.le_trans Zs K27.1
    have Kp := Kp.trans K27 (allS (P := fun x => x ∈ [] ∨ h0.size ≤ x) (Or.inr sz_a) all0)
    have E_b := E_b.keep K27
    have A_b := A_b.keep K27 (ninS ne_b_a nin0)
    have E_a := E_a.keep K27
    have F_a_bytes := f27_1
    show Go _ _ _ _ _ _ _ (T27.setTop (mkF m 57 #[.val (.int x1), .val (.int x2), .val (.int x3), .val (.int x4), .val (.int x5), .val (.int (3 : Int32)), .val (.ref b), .unset, .unset, .unset, .unset, .unset] [(.ref a)]))
    refine Go.of (fun _ q => XS.astore X27.here hx rfl (hb hby at_57) rfl rfl (l' := #[.val (.int x1), .val (.int x2), .val (.int x3), .val (.int x4), .val (.int x5), .val (.int (3 : Int32)), .val (.ref b), .val (.ref a), .unset, .unset, .unset, .unset]) rfl q) ?_
    show Go _ _ _ _ _ _ _ (T27.setTop (mkF m 59 #[.val (.int x1), .val (.int x2), .val (.int x3), .val (.int x4), .val (.int x5), .val (.int (3 : Int32)), .val (.ref b), .val (.ref a), .unset, .unset, .unset, .unset] []))
    refine Go.of (fun _ q => XS.iload X27.here hx rfl (hb hby at_59) rfl q) ?_
    show Go _ _ _ _ _ _ _ (T27.setTop (mkF m 61 #[.val (.int x1), .val (.int x2), .val (.int x3), .val (.int x4), .val (.int x5), .val (.int (3 : Int32)), .val (.ref b), .val (.ref a), .unset, .unset, .unset, .unset] [(.int (3 : Int32))]))
    refine Go.of (fun _ q => XS.ifYes X27.here hx rfl (pc0 := 61) (pc' := 68) rfl (hb hby at_61) rfl ((if0 _ _).trans (feq (by decide)).2) (by decide) (by decide) q) ?_
    show Go _ _ _ _ _ _ _ (T27.setTop (mkF m 68 #[.val (.int x1), .val (.int x2), .val (.int x3), .val (.int x4), .val (.int x5), .val (.int (3 : Int32)), .val (.ref b), .val (.ref a), .unset, .unset, .unset, .unset] []))
    refine Go.of (fun _ q => XS.iconst X27.here hx rfl (hb hby at_68) q) ?_
    show Go _ _ _ _ _ _ _ (T27.setTop (mkF m 69 #[.val (.int x1), .val (.int x2), .val (.int x3), .val (.int x4), .val (.int x5), .val (.int (3 : Int32)), .val (.ref b), .val (.ref a), .unset, .unset, .unset, .unset] [(.int (0 : Int32))]))
    refine Go.of (fun _ q => XS.istore X27.here hx rfl (hb hby at_69) rfl (l' := #[.val (.int x1), .val (.int x2), .val (.int x3), .val (.int x4), .val (.int x5), .val (.int (3 : Int32)), .val (.ref b), .val (.ref a), .val (.int (0 : Int32)), .unset, .unset, .unset]) rfl q) ?_
    show Go _ _ _ _ _ _ _ (T27.setTop (mkF m 71 #[.val (.int x1), .val (.int x2), .val (.int x3), .val (.int x4), .val (.int x5), .val (.int (3 : Int32)), .val (.ref b), .val (.ref a), .val (.int (0 : Int32)), .unset, .unset, .unset] []))
    refine Go.of (fun _ q => XS.aload X27.here hx rfl (hb hby at_71) rfl rfl q) ?_
    show Go _ _ _ _ _ _ _ (T27.setTop (mkF m 73 #[.val (.int x1), .val (.int x2), .val (.int x3), .val (.int x4), .val (.int x5), .val (.int (3 : Int32)), .val (.ref b), .val (.ref a), .val (.int (0 : Int32)), .unset, .unset, .unset] [(.ref a)]))
    refine Go.virtual X27 hx hZ (y := (⟨"com/example/latchwork/latchwork/Key", "isEnd", "()Z"⟩ : MethodName)) (z := (⟨"com/example/latchwork/latchwork/Key", "isEnd", "()Z"⟩ : MethodName)) (a := a) (argsL := []) hown (hw _ (List.mem_of_getElem? (i := 29) rfl)) (hw _ (List.mem_of_getElem? (i := 30) rfl)) (notFace_of_selects (args := #[]) (mvT hZ (hw _ (List.mem_of_getElem? (i := 32) rfl)))) (hw _ (List.mem_of_getElem? (i := 32) rfl)) (hw _ (List.mem_of_getElem? (i := 31) rfl)) (hw _ (List.mem_of_getElem? (i := 3) rfl)) (hw _ (List.mem_of_getElem? (i := 33) rfl)) (by decide) 0 rfl E_a (rm6_3 l Z a0 hw a b k22 (upI (upI (upI (fun _ => (0 : Int32)) 0 ((x3.toInt8.toInt32).toInt8.toInt32)) 1 ((x4.toInt8.toInt32).toInt8.toInt32)) 2 ((x5.toInt8.toInt32).toInt8.toInt32)) T27.heap n0 Zs F_a_bytes A_b) (by decide) (by decide) (by decide) (by decide) (g := (mkF m 73 #[.val (.int x1), .val (.int x2), .val (.int x3), .val (.int x4), .val (.int x5), .val (.int (3 : Int32)), .val (.ref b), .val (.ref a), .val (.int (0 : Int32)), .unset, .unset, .unset] [(.ref a)])) rfl (by rw [hml]; rfl) (rest := []) (lenOf pd4 rfl) rfl (by show 2 * 0 + _ ≤ _; exact Nat.le_of_eq rfl) (hb hby at_73) ?_
    intro T28 v28 L28 X28 q28
    obtain ⟨rfl, Nq28, e28⟩ := q28
    have N28 := Fr.app N27 Nq28
    show Go _ _ _ _ _ _ _ (T28.setTop (mkF m 76 #[.val (.int x1), .val (.int x2), .val (.int x3), .val (.int x4), .val (.int x5), .val (.int (3 : Int32)), .val (.ref b), .val (.ref a), .val (.int (0 : Int32)), .unset, .unset, .unset] [(.int (0 : Int32))]))
    refine Go.of (fun _ q => XS.iload X28.here hx rfl (hb hby at_76) rfl q) ?_
    show Go _ _ _ _ _ _ _ (T28.setTop (mkF m 78 #[.val (.int x1), .val (.int x2), .val (.int x3), .val (.int x4), .val (.int x5), .val (.int (3 : Int32)), .val (.ref b), .val (.ref a), .val (.int (0 : Int32)), .unset, .unset, .unset] [(.int (0 : Int32)), (.int (0 : Int32))]))
    refine Go.of (fun _ q => XS.icmpNo X28.here hx rfl (hb hby at_78) rfl (teq rfl).2 q) ?_
    show Go _ _ _ _ _ _ _ (T28.setTop (mkF m 81 #[.val (.int x1), .val (.int x2), .val (.int x3), .val (.int x4), .val (.int x5), .val (.int (3 : Int32)), .val (.ref b), .val (.ref a), .val (.int (0 : Int32)), .unset, .unset, .unset] []))
    refine Go.of (fun _ q => XS.iconst X28.here hx rfl (hb hby at_81) q) ?_
    show Go _ _ _ _ _ _ _ (T28.setTop (mkF m 82 #[.val (.int x1), .val (.int x2), .val (.int x3), .val (.int x4), .val (.int x5), .val (.int (3 : Int32)), .val (.ref b), .val (.ref a), .val (.int (0 : Int32)), .unset, .unset, .unset] [(.int (1 : Int32))]))
    refine Go.of (fun _ q => XS.goto X28.here hx rfl (pc0 := 82) (pc' := 86) rfl (hb hby at_82) (by decide) (by decide) q) ?_
    show Go _ _ _ _ _ _ _ (T28.setTop (mkF m 86 #[.val (.int x1), .val (.int x2), .val (.int x3), .val (.int x4), .val (.int x5), .val (.int (3 : Int32)), .val (.ref b), .val (.ref a), .val (.int (0 : Int32)), .unset, .unset, .unset] [(.int (1 : Int32))]))
    refine Go.of (fun _ q => XS.istore X28.here hx rfl (hb hby at_86) rfl (l' := #[.val (.int x1), .val (.int x2), .val (.int x3), .val (.int x4), .val (.int x5), .val (.int (3 : Int32)), .val (.ref b), .val (.ref a), .val (.int (0 : Int32)), .val (.int (1 : Int32)), .unset, .unset]) rfl q) ?_
    show Go _ _ _ _ _ _ _ (T28.setTop (mkF m 88 #[.val (.int x1), .val (.int x2), .val (.int x3), .val (.int x4), .val (.int x5), .val (.int (3 : Int32)), .val (.ref b), .val (.ref a), .val (.int (0 : Int32)), .val (.int (1 : Int32)), .unset, .unset] []))
    refine Go.of (fun _ q => XS.iloadN X28.here hx rfl (hb hby at_88) rfl q) ?_
    show Go _ _ _ _ _ _ _ (T28.setTop (mkF m 89 #[.val (.int x1), .val (.int x2), .val (.int x3), .val (.int x4), .val (.int x5), .val (.int (3 : Int32)), .val (.ref b), .val (.ref a), .val (.int (0 : Int32)), .val (.int (1 : Int32)), .unset, .unset] [(.int x1)]))
    refine Go.static X28 hx hZ (y := (⟨"com/example/latchwork/latchwork/Key", "end", "(I)Lcom/example/latchwork/latchwork/Key;"⟩ : MethodName)) (argsL := [(.int x1)]) hown (hw _ (List.mem_of_getElem? (i := 34) rfl)) (hw _ (List.mem_of_getElem? (i := 35) rfl)) (hw _ (List.mem_of_getElem? (i := 3) rfl)) (hw _ (List.mem_of_getElem? (i := 36) rfl)) (by decide) 0 e28 (rm7 l Z a0 hw x1 T27.heap n0 Zs ) (by decide) (by decide) (by decide) (by decide) (g := (mkF m 89 #[.val (.int x1), .val (.int x2), .val (.int x3), .val (.int x4), .val (.int x5), .val (.int (3 : Int32)), .val (.ref b), .val (.ref a), .val (.int (0 : Int32)), .val (.int (1 : Int32)), .unset, .unset] [(.int x1)])) rfl (by rw [hml]; rfl) (rest := []) (lenOf pd5 rfl) rfl (by show 2 * 0 + _ ≤ _; exact Nat.le_of_eq rfl) (hb hby at_89) ?_
    intro T29 v29 L29 X29 q29
    obtain ⟨a2, b2, kb2, gb2, rfl, Nq29, K29, f29_0, f29_1, f29_2, f29_3, f29_4, f29_5⟩ := q29
    have N29 := Fr.app N28 Nq29
    have g_a2 : n0 ≤ a2 := Nat.le_trans Zs f29_0
    have sz_a2 : h0.size ≤ a2 := Nat.le_trans Kp.1 f29_0
    have ne_b_a2 : b ≠ a2 := Nat.ne_of_lt (Nat.lt_of_lt_of_le E_b.lt f29_0)
    have ne_a_a2 : a ≠ a2 := Nat.ne_of_lt (Nat.lt_of_lt_of_le E_a.lt f29_0)
    have g_b2 : n0 ≤ b2 := Nat.le_trans Zs f29_1
    have sz_b2 : h0.size ≤ b2 := Nat.le_trans Kp.1 f29_1
    have ne_b_b2 : b ≠ b2 := Nat.ne_of_lt (Nat.lt_of_lt_of_le E_b.lt f29_1)
    have ne_a_b2 : a ≠ b2 := Nat.ne_of_lt (Nat.lt_of_lt_of_le E_a.lt f29_1)
    have Zs := Nat.le_trans Zs K29.1
    have Kp := Kp.trans K29 all0
    have E_b := E_b.keep K29
    have A_b := A_b.keep K29 nin0
    have E_a := E_a.keep K29
    have F_a_bytes := F_a_bytes.keep K29 nin0
    have E_a2 := f29_3
    have F_a2_bytes := f29_4
    have A_b2 := f29_5
    show Go _ _ _ _ _ _ _ (T29.setTop (mkF m 92 #[.val (.int x1), .val (.int x2), .val (.int x3), .val (.int x4), .val (.int x5), .val (.int (3 : Int32)), .val (.ref b), .val (.ref a), .val (.int (0 : Int32)), .val (.int (1 : Int32)), .unset, .unset] [(.ref a2)]))
    refine Go.of (fun _ q => XS.astore X29.here hx rfl (hb hby at_92) rfl rfl (l' := #[.val (.int x1), .val (.int x2), .val (.int x3), .val (.int x4), .val (.int x5), .val (.int (3 : Int32)), .val (.ref b), .val (.ref a), .val (.int (0 : Int32)), .val (.int (1 : Int32)), .val (.ref a2), .unset]) rfl q) ?_
    show Go _ _ _ _ _ _ _ (T29.setTop (mkF m 94 #[.val (.int x1), .val (.int x2), .val (.int x3), .val (.int x4), .val (.int x5), .val (.int (3 : Int32)), .val (.ref b), .val (.ref a), .val (.int (0 : Int32)), .val (.int (1 : Int32)), .val (.ref a2), .unset] []))
    refine Go.of (fun _ q => XS.aload X29.here hx rfl (hb hby at_94) rfl rfl q) ?_
    show Go _ _ _ _ _ _ _ (T29.setTop (mkF m 96 #[.val (.int x1), .val (.int x2), .val (.int x3), .val (.int x4), .val (.int x5), .val (.int (3 : Int32)), .val (.ref b), .val (.ref a), .val (.int (0 : Int32)), .val (.int (1 : Int32)), .val (.ref a2), .unset] [(.ref a2)]))
    refine Go.virtual X29 hx hZ (y := (⟨"com/example/latchwork/latchwork/Key", "isEnd", "()Z"⟩ : MethodName)) (z := (⟨"com/example/latchwork/latchwork/Key", "isEnd", "()Z"⟩ : MethodName)) (a := a2) (argsL := []) hown (hw _ (List.mem_of_getElem? (i := 29) rfl)) (hw _ (List.mem_of_getElem? (i := 30) rfl)) (notFace_of_selects (args := #[]) (mvT hZ (hw _ (List.mem_of_getElem? (i := 32) rfl)))) (hw _ (List.mem_of_getElem? (i := 32) rfl)) (hw _ (List.mem_of_getElem? (i := 31) rfl)) (hw _ (List.mem_of_getElem? (i := 3) rfl)) (hw _ (List.mem_of_getElem? (i := 33) rfl)) (by decide) 0 rfl E_a2 (rm6_0 l Z a0 hw a2 b2 kb2 gb2 T29.heap n0 Zs F_a2_bytes A_b2) (by decide) (by decide) (by decide) (by decide) (g := (mkF m 96 #[.val (.int x1), .val (.int x2), .val (.int x3), .val (.int x4), .val (.int x5), .val (.int (3 : Int32)), .val (.ref b), .val (.ref a), .val (.int (0 : Int32)), .val (.int (1 : Int32)), .val (.ref a2), .unset] [(.ref a2)])) rfl (by rw [hml]; rfl) (rest := []) (lenOf pd4 rfl) rfl (by show 2 * 0 + _ ≤ _; exact Nat.le_of_eq rfl) (hb hby at_96) ?_
    intro T30 v30 L30 X30 q30
    obtain ⟨rfl, Nq30, e30⟩ := q30
    have N30 := Fr.app N29 Nq30
    show Go _ _ _ _ _ _ _ (T30.setTop (mkF m 99 #[.val (.int x1), .val (.int x2), .val (.int x3), .val (.int x4), .val (.int x5), .val (.int (3 : Int32)), .val (.ref b), .val (.ref a), .val (.int (0 : Int32)), .val (.int (1 : Int32)), .val (.ref a2), .unset] [(.int (1 : Int32))]))
    refine Go.of (fun _ q => XS.istore X30.here hx rfl (hb hby at_99) rfl (l' := #[.val (.int x1), .val (.int x2), .val (.int x3), .val (.int x4), .val (.int x5), .val (.int (3 : Int32)), .val (.ref b), .val (.ref a), .val (.int (0 : Int32)), .val (.int (1 : Int32)), .val (.ref a2), .val (.int (1 : Int32))]) rfl q) ?_
    show Go _ _ _ _ _ _ _ (T30.setTop (mkF m 101 #[.val (.int x1), .val (.int x2), .val (.int x3), .val (.int x4), .val (.int x5), .val (.int (3 : Int32)), .val (.ref b), .val (.ref a), .val (.int (0 : Int32)), .val (.int (1 : Int32)), .val (.ref a2), .val (.int (1 : Int32))] []))
    refine Go.of (fun _ q => XS.iload X30.here hx rfl (hb hby at_101) rfl q) ?_
    show Go _ _ _ _ _ _ _ (T30.setTop (mkF m 103 #[.val (.int x1), .val (.int x2), .val (.int x3), .val (.int x4), .val (.int x5), .val (.int (3 : Int32)), .val (.ref b), .val (.ref a), .val (.int (0 : Int32)), .val (.int (1 : Int32)), .val (.ref a2), .val (.int (1 : Int32))] [(.int (1 : Int32))]))
    refine Go.of (fun _ q => XS.ifNo X30.here hx rfl (hb hby at_103) rfl ((if0 _ _).trans (feq (by decide)).1) q) ?_
    show Go _ _ _ _ _ _ _ (T30.setTop (mkF m 106 #[.val (.int x1), .val (.int x2), .val (.int x3), .val (.int x4), .val (.int x5), .val (.int (3 : Int32)), .val (.ref b), .val (.ref a), .val (.int (0 : Int32)), .val (.int (1 : Int32)), .val (.ref a2), .val (.int (1 : Int32))] []))
    refine Go.of (fun _ q => XS.iload X30.here hx rfl (hb hby at_106) rfl q) ?_
    show Go _ _ _ _ _ _ _ (T30.setTop (mkF m 108 #[.val (.int x1), .val (.int x2), .val (.int x3), .val (.int x4), .val (.int x5), .val (.int (3 : Int32)), .val (.ref b), .val (.ref a), .val (.int (0 : Int32)), .val (.int (1 : Int32)), .val (.ref a2), .val (.int (1 : Int32))] [(.int (1 : Int32))]))
    refine Go.of (fun _ q => XS.ifNo X30.here hx rfl (hb hby at_108) rfl ((if0 _ _).trans (feq (by decide)).1) q) ?_
    show Go _ _ _ _ _ _ _ (T30.setTop (mkF m 111 #[.val (.int x1), .val (.int x2), .val (.int x3), .val (.int x4), .val (.int x5), .val (.int (3 : Int32)), .val (.ref b), .val (.ref a), .val (.int (0 : Int32)), .val (.int (1 : Int32)), .val (.ref a2), .val (.int (1 : Int32))] []))
    refine Go.of (fun _ q => XS.iconst X30.here hx rfl (hb hby at_111) q) ?_
    show Go _ _ _ _ _ _ _ (T30.setTop (mkF m 112 #[.val (.int x1), .val (.int x2), .val (.int x3), .val (.int x4), .val (.int x5), .val (.int (3 : Int32)), .val (.ref b), .val (.ref a), .val (.int (0 : Int32)), .val (.int (1 : Int32)), .val (.ref a2), .val (.int (1 : Int32))] [(.int (1 : Int32))]))
    refine Go.of (fun _ q => XS.goto X30.here hx rfl (pc0 := 112) (pc' := 116) rfl (hb hby at_112) (by decide) (by decide) q) ?_
    show Go _ _ _ _ _ _ _ (T30.setTop (mkF m 116 #[.val (.int x1), .val (.int x2), .val (.int x3), .val (.int x4), .val (.int x5), .val (.int (3 : Int32)), .val (.ref b), .val (.ref a), .val (.int (0 : Int32)), .val (.int (1 : Int32)), .val (.ref a2), .val (.int (1 : Int32))] [(.int (1 : Int32))]))
    refine Go.retN X30 hx hlk (t := .boolean) hret (by simp) (hb hby at_116) rfl (by decide) (by decide) ?_
    rw [e30]
    exact ⟨rfl, N30⟩
set_option maxRecDepth 65536 in
set_option maxHeartbeats 40000000 in
theorem comes_1 {Post : Tables → Env → Array Value → State → Outcome → State → Prop} (hpost : ∀ tb e args s v u, (limb_1_1.after args s (.returned v) u = true ∧ limb_1_2.after args s (.returned v) u = true ∧ True) → FrameEnd s (.returned v) u (Jvm.fieldLocs frame_1_writes args s ++ Jvm.arrayLocs frame_1_arrays args s ++ Jvm.staticLocs frame_1_statics s) 16 128 → Post tb e args s (.returned v) u) :
    ArmFor flags0 classFile x code maxLocals ret World_1 tables_1 room_1 Calls_1 rest_1 Pre_1 Post := by
  intro l hfl _ _ p e ha hc hk s m args below hf hA hF happ hP
  obtain ⟨hcalls, hrest, hpre⟩ := hP
  obtain ⟨-, -, -, hnamed, -, -, -, hat⟩ := (Spec.applies_iff hf).mp happ
  obtain ⟨hg, hn⟩ := and_e (Cond.before_iff.mp (show (Jvm.Cond.and given_1 narrow_1).before args s = true from hpre))
  obtain ⟨g1, g2⟩ := and_e hg
  obtain ⟨g3, g4⟩ := and_e g2
  obtain ⟨g5, g6⟩ := and_e g4
  obtain ⟨g7, g8⟩ := and_e g6
  obtain ⟨g9, g10⟩ := and_e g8
  obtain ⟨w0, w1, w2, w3, w4, rfl⟩ : ∃ w0 w1 w2 w3 w4 : Value, args = #[w0, w1, w2, w3, w4] := by
    have hs : args.size = 5 := by simpa [Cond.value, given_1] using g1
    obtain ⟨L⟩ := args
    match L, hs with
    | [w0, w1, w2, w3, w4], _ => exact ⟨w0, w1, w2, w3, w4, rfl⟩
  have hw := fun d (hd : d ∈ tables_1) => atoms_spec (ws := Jvm.Cond.code x code maxLocals ret :: tables_1) hat d (List.mem_cons_of_mem _ hd)
  have hfit : Fit s := fun {y c} hc i hi => by
    obtain ⟨ha, rfl⟩ := Array.getElem?_eq_some_iff.mp hc
    have q := List.all_eq_true.mp ((Array.all_eq_true_iff_forall_mem.mp hF) _ (Array.getElem_mem ha)) i (List.mem_range.mpr hi)
    simpa [Array.getElem?_eq_getElem hi] using q
  obtain ⟨i0, ei0⟩ := is_v g3
  obtain rfl : w0 = (.int i0) := Option.some.inj ei0
  obtain ⟨i1, ei1⟩ := is_v g5
  obtain rfl : w1 = (.int i1) := Option.some.inj ei1
  obtain ⟨i2, ei2⟩ := is_v g7
  obtain rfl : w2 = (.int i2) := Option.some.inj ei2
  obtain ⟨i3, ei3⟩ := is_v g9
  obtain rfl : w3 = (.int i3) := Option.some.inj ei3
  obtain ⟨i4, ei4⟩ := is_v g10
  obtain rfl : w4 = (.int i4) := Option.some.inj ei4
  obtain ⟨n, o, h1, h2, h3, _, L, rfl, ⟨rfl, N⟩, hq⟩ := rm0 l s _ hw i0 i1 i2 i3 i4 s.heap s.heap.size (Nat.le_refl _)  tables_1 p e ha hc hk s m _ below hf ((Spec.applies_iff_loose hf).mp happ).1 ⟨rfl, State.Warmed39.refl s, rfl⟩ trivial
  refine ⟨n, _, h1, h2, h3, hpost _ _ _ _ _ _ ⟨Cond.after_iff.mpr rfl, Cond.after_iff.mpr (eq_i res_at (Term.int_eval (1)) rfl), trivial⟩ ⟨hq.1, hq.2.1, (hq.2.2.sift fun y hy => Or.inr (N y hy)).mono (by decide) (by decide)⟩⟩
theorem main_1_1 : Claimed_1_1 := comes_1 fun _ _ _ _ _ _ h hF => ⟨h.1, hF⟩
theorem main_1_2 : Claimed_1_2 := comes_1 fun _ _ _ _ _ _ h hF => ⟨h.2.1, hF⟩
end Jvm.Pilot.@@N@@
namespace Jvm.Pilot.@@N@@
open Jvm Jvm.ClassFile Sem Op Lib Jvm.Free Jvm.Stand Jvm.Pilot.@@N@@.Jvm.D
/-! MADE BY PROGRAM (witnessworld.py) out of the Statement's table words and the real class files: 12 classes; the members and pool entries that the words name. The judged class is class 1, her method 1. -/
namespace start1
open Jvm.ClassFile
def u (s : String) : CpInfo := .utf8 (stringToUtf16 s)
/-- a pool by its gaps: so many unusable entries, then the entry; so many at the end -/
def gap : Nat → List CpInfo → List CpInfo
  | 0, r => r
  | n + 1, r => .unusable :: gap n r
def poolList (es : List (Nat × CpInfo)) (last : Nat) : List CpInfo := es.foldr (fun e r => gap e.1 (e.2 :: r)) (gap last [])
def pool (es : List (Nat × CpInfo)) (last : Nat) : Array CpInfo := ⟨poolList es last⟩
def fileOf (pool : Array CpInfo) (this : Nat) (attrs : Array Attribute := #[]) (ms : Array MethodInfo := #[]) (fl : Nat := 33) (sup : Nat := 0) (ifs : Array Nat := #[]) (fds : Array FieldInfo := #[]) : ClassFile where
  minorVersion := 0
  majorVersion := 65
  constantPool := pool
  accessFlags := fl
  thisClass := this
  superClass := sup
  interfaces := ifs
  fields := fds
  methods := ms
  attributes := attrs
def plain (name : String) (sup : Option ClassId) : Class where
  name := name
  kind := .ordinary
  loader := none
  accessFlags := 33
  super := sup
  interfaces := #[]
  cf := none
  fields := #[]
  methods := #[]
  instanceTypes := #[]
  staticTypes := #[]
  resolved := #[]
  callSites := []
  init := .initialized
  statics := none
  mirror := none

def pool0 : Array CpInfo := pool [(5, u "<init>"), (0, u "()V"), (1, .class_ 10), (1, u "java/lang/Object")] 113

def k0c0 : Code := { maxStack := 0, maxLocals := 1, code := object_method_1_code, exceptionTable := #[], attributes := #[] }
def k0m0 : Method := { name := "<init>", desc := "()V", sig := { parameters := [], returnType := none }, accessFlags := 1, code := some k0c0 }
/-- java/lang/Object -/
def k0 : Class := { plain "java/lang/Object" none with
  accessFlags := 33
  interfaces := #[]
  cf := some (fileOf pool0 8 #[] #[{ accessFlags := 1, nameIndex := 5, descriptorIndex := 6, attributes := #[] }] 33 0 #[] #[])
  fields := #[]
  methods := #[k0m0]
  instanceTypes := #[]
  staticTypes := #[]
  resolved := Array.replicate 124 none
  statics := none }

def pool1 : Array CpInfo := pool [(2, .class_ 4), (1, u "java/lang/Object"), (0, u "<init>"), (0, u "()V"), (0, .class_ 8), (0, u "com/example/latchwork/latchwork/Key"), (0, .methodref 7 10), (0, .nameAndType 5 11), (0, u "(I[B)V"), (0, .methodref 7 13), (0, .nameAndType 14 15), (0, u "isEnd"), (0, u "()Z"), (0, .methodref 7 17), (0, .nameAndType 18 19), (0, u "end"), (0, u "(I)Lcom/example/latchwork/latchwork/Key;"), (0, .class_ 21), (0, u "com/example/latchwork/latchwork/KeyIsEndPinLaw"), (2, u "law"), (0, u "(IIIII)Z")] 5

def k1m0 : Method := { name := "<init>", desc := "()V", sig := { parameters := [], returnType := none }, accessFlags := 1, code := none }
def k1c1 : Code := { maxStack := 4, maxLocals := 12, code := code, exceptionTable := #[], attributes := #[] }
def k1m1 : Method := { name := "law", desc := "(IIIII)Z", sig := { parameters := [.int, .int, .int, .int, .int], returnType := some .boolean }, accessFlags := 9, code := some k1c1 }
/-- com/example/latchwork/latchwork/KeyIsEndPinLaw -/
def k1 : Class := { plain "com/example/latchwork/latchwork/KeyIsEndPinLaw" (some 0) with
  accessFlags := 49
  interfaces := #[]
  cf := some (fileOf pool1 20 #[] #[{ accessFlags := 1, nameIndex := 5, descriptorIndex := 6, attributes := #[] }, { accessFlags := 9, nameIndex := 24, descriptorIndex := 25, attributes := #[] }] 49 2 #[] #[])
  fields := #[]
  methods := #[k1m0, k1m1]
  instanceTypes := #[]
  staticTypes := #[]
  resolved := Array.replicate 31 none
  statics := none }

def pool2 : Array CpInfo := pool [(1, .class_ 2), (0, u "java/lang/Comparable"), (0, .class_ 4), (0, u "java/lang/Object")] 7

/-- java/lang/Comparable -/
def k2 : Class := { plain "java/lang/Comparable" (some 0) with
  accessFlags := 1537
  interfaces := #[]
  cf := some (fileOf pool2 1 #[] #[] 1537 3 #[] #[])
  fields := #[]
  methods := #[]
  instanceTypes := #[]
  staticTypes := #[]
  resolved := Array.replicate 12 none
  statics := none }

def pool3 : Array CpInfo := pool [(1, .methodref 2 3), (0, .class_ 4), (0, .nameAndType 5 6), (0, u "java/lang/Object"), (0, u "<init>"), (0, u "()V"), (0, .fieldref 8 9), (0, .class_ 10), (0, .nameAndType 11 12), (0, u "com/example/latchwork/latchwork/Key"), (0, u "tree"), (0, u "I"), (0, .fieldref 8 14), (0, .nameAndType 15 16), (0, u "bytes"), (0, u "[B"), (0, .methodref 18 19), (0, .class_ 20), (0, .nameAndType 21 22), (0, u "java/util/Arrays"), (0, u "hashCode"), (0, u "([B)I"), (0, .fieldref 8 24), (0, .nameAndType 25 12), (0, u "hash"), (0, .methodref 8 27), (0, .nameAndType 5 28), (0, u "(I[B)V"), (8, u "isEnd"), (0, u "()Z"), (25, .class_ 65), (0, u "java/lang/Comparable"), (2, u "end"), (0, u "(I)Lcom/example/latchwork/latchwork/Key;")] 26

def k3c0 : Code := { maxStack := 3, maxLocals := 3, code := prog_25_method_1_code, exceptionTable := #[], attributes := #[] }
def k3m0 : Method := { name := "<init>", desc := "(I[B)V", sig := { parameters := [.int, (.array .byte)], returnType := none }, accessFlags := 0, code := some k3c0 }
def k3c1 : Code := { maxStack := 4, maxLocals := 1, code := prog_25_method_2_code, exceptionTable := #[], attributes := #[] }
def k3m1 : Method := { name := "end", desc := "(I)Lcom/example/latchwork/latchwork/Key;", sig := { parameters := [.int], returnType := some (.object "com/example/latchwork/latchwork/Key") }, accessFlags := 8, code := some k3c1 }
def k3c2 : Code := { maxStack := 1, maxLocals := 1, code := prog_25_method_5_code, exceptionTable := #[], attributes := #[] }
def k3m2 : Method := { name := "isEnd", desc := "()Z", sig := { parameters := [], returnType := some .boolean }, accessFlags := 0, code := some k3c2 }
/-- com/example/latchwork/latchwork/Key -/
def k3 : Class := { plain "com/example/latchwork/latchwork/Key" (some 0) with
  accessFlags := 48
  interfaces := #[2]
  cf := some (fileOf pool3 8 #[] #[{ accessFlags := 0, nameIndex := 5, descriptorIndex := 28, attributes := #[] }, { accessFlags := 8, nameIndex := 68, descriptorIndex := 69, attributes := #[] }, { accessFlags := 0, nameIndex := 37, descriptorIndex := 38, attributes := #[] }] 48 2 #[64] #[{ accessFlags := 18, nameIndex := 11, descriptorIndex := 12, attributes := #[] }, { accessFlags := 18, nameIndex := 15, descriptorIndex := 16, attributes := #[] }, { accessFlags := 18, nameIndex := 25, descriptorIndex := 12, attributes := #[] }])
  fields := #[{ name := "tree", type := .int, accessFlags := 18, slot := 0, constantValue := 0 }, { name := "bytes", type := (.array .byte), accessFlags := 18, slot := 1, constantValue := 0 }, { name := "hash", type := .int, accessFlags := 18, slot := 2, constantValue := 0 }]
  methods := #[k3m0, k3m1, k3m2]
  instanceTypes := #[.int, (.array .byte), .int]
  staticTypes := #[]
  resolved := Array.replicate 96 none
  statics := none }

def pool4 : Array CpInfo := pool [(2, .class_ 4), (1, u "java/lang/Object"), (0, u "<init>"), (0, u "()V"), (7, .class_ 16), (1, u "java/util/Arrays"), (57, .class_ 76), (1, u "java/util/Arrays$NaturalOrder"), (36, .class_ 115), (1, u "java/util/Arrays$LegacyMergeSort"), (1, u "Z"), (128, .class_ 248), (1, u "jdk/internal/util/ArraysSupport"), (126, .class_ 376), (0, u "java/util/Arrays$ArrayList"), (2, .methodref 246 380), (0, .nameAndType 381 382), (0, u "vectorizedHashCode"), (0, u "(Ljava/lang/Object;IIII)I"), (2, u "hashCode"), (16, u "([B)I"), (42, u "$assertionsDisabled"), (269, u "MIN_ARRAY_SORT_GRAN"), (0, u "I"), (2, u "INSERTIONSORT_THRESHOLD"), (255, .class_ 976), (0, u "java/util/Arrays$ArrayItr")] 52

def k4m0 : Method := { name := "<init>", desc := "()V", sig := { parameters := [], returnType := none }, accessFlags := 2, code := none }
def k4c1 : Code := { maxStack := 5, maxLocals := 1, code := jdk_65_method_153_code, exceptionTable := #[], attributes := #[] }
def k4m1 : Method := { name := "hashCode", desc := "([B)I", sig := { parameters := [(.array .byte)], returnType := some .int }, accessFlags := 9, code := some k4c1 }
/-- java/util/Arrays -/
def k4 : Class := { plain "java/util/Arrays" (some 0) with
  accessFlags := 49
  interfaces := #[]
  cf := some (fileOf pool4 14 #[.nestMembers #[975, 375, 113, 74]] #[{ accessFlags := 2, nameIndex := 5, descriptorIndex := 6, attributes := #[] }, { accessFlags := 9, nameIndex := 385, descriptorIndex := 402, attributes := #[] }] 49 2 #[] #[{ accessFlags := 26, nameIndex := 715, descriptorIndex := 716, attributes := #[] }, { accessFlags := 26, nameIndex := 719, descriptorIndex := 716, attributes := #[] }, { accessFlags := 4120, nameIndex := 445, descriptorIndex := 117, attributes := #[] }])
  fields := #[{ name := "MIN_ARRAY_SORT_GRAN", type := .int, accessFlags := 26, slot := 0, constantValue := 0 }, { name := "INSERTIONSORT_THRESHOLD", type := .int, accessFlags := 26, slot := 1, constantValue := 0 }, { name := "$assertionsDisabled", type := .boolean, accessFlags := 4120, slot := 2, constantValue := 0 }]
  methods := #[k4m0, k4m1]
  instanceTypes := #[]
  staticTypes := #[.int, .int, .boolean]
  resolved := Array.replicate 1029 none
  statics := none }

def pool5 : Array CpInfo := pool [(9, u "<init>"), (6, .class_ 18), (1, u "java/lang/Object"), (0, u "()V"), (1, .class_ 23), (1, u "jdk/internal/util/ArraysSupport"), (0, u "LOG2_ARRAY_LONG_INDEX_SCALE"), (0, u "I"), (2, u "U"), (0, u "Ljdk/internal/misc/Unsafe;"), (8, u "BIG_ENDIAN"), (0, u "Z"), (8, u "LOG2_BYTE_BIT_SIZE"), (4, u "LOG2_ARRAY_INT_INDEX_SCALE"), (6, .class_ 61), (0, u "[B"), (3, u "(I[BII)I"), (7, u "hashCode"), (1, .methodref 21 76), (0, .nameAndType 73 65), (31, u "JLA"), (0, u "Ljdk/internal/access/JavaLangAccess;"), (11, u "LOG2_ARRAY_BOOLEAN_INDEX_SCALE"), (9, u "LOG2_ARRAY_BYTE_INDEX_SCALE"), (5, u "LOG2_ARRAY_CHAR_INDEX_SCALE"), (5, u "LOG2_ARRAY_SHORT_INDEX_SCALE"), (18, u "LOG2_ARRAY_FLOAT_INDEX_SCALE"), (24, u "LOG2_ARRAY_DOUBLE_INDEX_SCALE"), (89, u "T_BOOLEAN"), (2, u "T_CHAR"), (1, u "T_FLOAT"), (1, u "T_DOUBLE"), (1, u "T_BYTE"), (1, u "T_SHORT"), (1, u "T_INT"), (1, u "T_LONG"), (1, u "SOFT_MAX_ARRAY_LENGTH"), (26, u "vectorizedHashCode"), (0, u "(Ljava/lang/Object;IIII)I")] 55

def k5m0 : Method := { name := "<init>", desc := "()V", sig := { parameters := [], returnType := none }, accessFlags := 2, code := none }
def k5c1 : Code := { maxStack := 4, maxLocals := 5, code := jdk_48_method_4_code, exceptionTable := #[], attributes := #[] }
def k5m1 : Method := { name := "vectorizedHashCode", desc := "(Ljava/lang/Object;IIII)I", sig := { parameters := [(.object "java/lang/Object"), .int, .int, .int, .int], returnType := some .int }, accessFlags := 9, code := some k5c1 }
def k5c2 : Code := { maxStack := 3, maxLocals := 6, code := jdk_48_method_6_code, exceptionTable := #[], attributes := #[] }
def k5m2 : Method := { name := "hashCode", desc := "(I[BII)I", sig := { parameters := [.int, (.array .byte), .int, .int], returnType := some .int }, accessFlags := 10, code := some k5c2 }
/-- jdk/internal/util/ArraysSupport -/
def k5 : Class := { plain "jdk/internal/util/ArraysSupport" (some 0) with
  accessFlags := 33
  interfaces := #[]
  cf := some (fileOf pool5 21 #[] #[{ accessFlags := 2, nameIndex := 9, descriptorIndex := 19, attributes := #[] }, { accessFlags := 9, nameIndex := 321, descriptorIndex := 322, attributes := #[] }, { accessFlags := 10, nameIndex := 73, descriptorIndex := 65, attributes := #[] }] 33 16 #[] #[{ accessFlags := 24, nameIndex := 28, descriptorIndex := 29, attributes := #[] }, { accessFlags := 26, nameIndex := 38, descriptorIndex := 39, attributes := #[] }, { accessFlags := 25, nameIndex := 121, descriptorIndex := 25, attributes := #[] }, { accessFlags := 25, nameIndex := 131, descriptorIndex := 25, attributes := #[] }, { accessFlags := 25, nameIndex := 137, descriptorIndex := 25, attributes := #[] }, { accessFlags := 25, nameIndex := 143, descriptorIndex := 25, attributes := #[] }, { accessFlags := 25, nameIndex := 53, descriptorIndex := 25, attributes := #[] }, { accessFlags := 25, nameIndex := 24, descriptorIndex := 25, attributes := #[] }, { accessFlags := 25, nameIndex := 162, descriptorIndex := 25, attributes := #[] }, { accessFlags := 25, nameIndex := 187, descriptorIndex := 25, attributes := #[] }, { accessFlags := 26, nameIndex := 48, descriptorIndex := 25, attributes := #[] }, { accessFlags := 25, nameIndex := 277, descriptorIndex := 25, attributes := #[] }, { accessFlags := 25, nameIndex := 280, descriptorIndex := 25, attributes := #[] }, { accessFlags := 25, nameIndex := 282, descriptorIndex := 25, attributes := #[] }, { accessFlags := 25, nameIndex := 284, descriptorIndex := 25, attributes := #[] }, { accessFlags := 25, nameIndex := 286, descriptorIndex := 25, attributes := #[] }, { accessFlags := 25, nameIndex := 288, descriptorIndex := 25, attributes := #[] }, { accessFlags := 25, nameIndex := 290, descriptorIndex := 25, attributes := #[] }, { accessFlags := 25, nameIndex := 292, descriptorIndex := 25, attributes := #[] }, { accessFlags := 26, nameIndex := 108, descriptorIndex := 109, attributes := #[] }, { accessFlags := 25, nameIndex := 294, descriptorIndex := 25, attributes := #[] }])
  fields := #[{ name := "U", type := (.object "jdk/internal/misc/Unsafe"), accessFlags := 24, slot := 0, constantValue := 0 }, { name := "BIG_ENDIAN", type := .boolean, accessFlags := 26, slot := 1, constantValue := 0 }, { name := "LOG2_ARRAY_BOOLEAN_INDEX_SCALE", type := .int, accessFlags := 25, slot := 2, constantValue := 0 }, { name := "LOG2_ARRAY_BYTE_INDEX_SCALE", type := .int, accessFlags := 25, slot := 3, constantValue := 0 }, { name := "LOG2_ARRAY_CHAR_INDEX_SCALE", type := .int, accessFlags := 25, slot := 4, constantValue := 0 }, { name := "LOG2_ARRAY_SHORT_INDEX_SCALE", type := .int, accessFlags := 25, slot := 5, constantValue := 0 }, { name := "LOG2_ARRAY_INT_INDEX_SCALE", type := .int, accessFlags := 25, slot := 6, constantValue := 0 }, { name := "LOG2_ARRAY_LONG_INDEX_SCALE", type := .int, accessFlags := 25, slot := 7, constantValue := 0 }, { name := "LOG2_ARRAY_FLOAT_INDEX_SCALE", type := .int, accessFlags := 25, slot := 8, constantValue := 0 }, { name := "LOG2_ARRAY_DOUBLE_INDEX_SCALE", type := .int, accessFlags := 25, slot := 9, constantValue := 0 }, { name := "LOG2_BYTE_BIT_SIZE", type := .int, accessFlags := 26, slot := 10, constantValue := 0 }, { name := "T_BOOLEAN", type := .int, accessFlags := 25, slot := 11, constantValue := 0 }, { name := "T_CHAR", type := .int, accessFlags := 25, slot := 12, constantValue := 0 }, { name := "T_FLOAT", type := .int, accessFlags := 25, slot := 13, constantValue := 0 }, { name := "T_DOUBLE", type := .int, accessFlags := 25, slot := 14, constantValue := 0 }, { name := "T_BYTE", type := .int, accessFlags := 25, slot := 15, constantValue := 0 }, { name := "T_SHORT", type := .int, accessFlags := 25, slot := 16, constantValue := 0 }, { name := "T_INT", type := .int, accessFlags := 25, slot := 17, constantValue := 0 }, { name := "T_LONG", type := .int, accessFlags := 25, slot := 18, constantValue := 0 }, { name := "JLA", type := (.object "jdk/internal/access/JavaLangAccess"), accessFlags := 26, slot := 19, constantValue := 0 }, { name := "SOFT_MAX_ARRAY_LENGTH", type := .int, accessFlags := 25, slot := 20, constantValue := 0 }]
  methods := #[k5m0, k5m1, k5m2]
  instanceTypes := #[]
  staticTypes := #[(.object "jdk/internal/misc/Unsafe"), .boolean, .int, .int, .int, .int, .int, .int, .int, .int, .int, .int, .int, .int, .int, .int, .int, .int, .int, (.object "jdk/internal/access/JavaLangAccess"), .int]
  resolved := Array.replicate 378 none
  statics := none }

def pool6 : Array CpInfo := pool [(1, u "java/lang/Cloneable"), (0, .class_ 1), (0, u "java/lang/Object"), (0, .class_ 3)] 3

/-- java/lang/Cloneable -/
def k6 : Class := { plain "java/lang/Cloneable" (some 0) with
  accessFlags := 1537
  interfaces := #[]
  cf := some (fileOf pool6 2 #[] #[] 1537 4 #[] #[])
  fields := #[]
  methods := #[]
  instanceTypes := #[]
  staticTypes := #[]
  resolved := Array.replicate 8 none
  statics := none }

def pool7 : Array CpInfo := pool [(1, u "java/io/Serializable"), (0, .class_ 1), (0, u "java/lang/Object"), (0, .class_ 3)] 3

/-- java/io/Serializable -/
def k7 : Class := { plain "java/io/Serializable" (some 0) with
  accessFlags := 1537
  interfaces := #[]
  cf := some (fileOf pool7 2 #[] #[] 1537 4 #[] #[])
  fields := #[]
  methods := #[]
  instanceTypes := #[]
  staticTypes := #[]
  resolved := Array.replicate 8 none
  statics := none }

/-- the primitive byte -/
def k8 : Class := { plain "byte" none with kind := .primitive 'B', accessFlags := 0x411 }
/-- [B -/
def k9 : Class := { plain "[B" (some 0) with kind := .array 8 .byte, interfaces := #[6, 7], accessFlags := 1041 }

/-- the primitive int -/
def k10 : Class := { plain "int" none with kind := .primitive 'I', accessFlags := 0x411 }
/-- [I -/
def k11 : Class := { plain "[I" (some 0) with kind := .array 10 .int, interfaces := #[6, 7], accessFlags := 1041 }

def heap : Heap := #[]
def classes : Array Class := #[k0, k1, k2, k3, k4, k5, k6, k7, k8, k9, k10, k11]
def interned : List (Array UInt16 × Addr) := []
def slotsUsed : Nat := 0
def theMethod : MethodId := ⟨1, 1⟩
def args0 : Array Value := #[.int 5, .int 5, .int 5, .int 5, .int 5]
def aboutOver (below : List Frame) : State where
  vm := { classes := classes, interned := interned.toArray }
  heap := heap
  slotsUsed := slotsUsed
  threads := #[{ frames := .invoking theMethod args0 :: below }]
def below0 : List Frame := [.native { method := ⟨0, 0⟩, args := #[] }]
def about1 : State := aboutOver below0
def p0 : Program := .bare "" "" ""
def e0 : Env := launch0.env 0 0 0
theorem w_frames : about1.frames = Frame.invoking theMethod args0 :: below0 := rfl
set_option maxRecDepth 65536 in
theorem w_args : argsFit about1.vm theMethod args0 = true := by decide +kernel
set_option maxRecDepth 65536 in
theorem w_heap : heapFits about1 = true := by decide +kernel
set_option maxRecDepth 65536 in
theorem w_runnable : about1.curStatus? = some .runnable := by decide +kernel
set_option maxRecDepth 65536 in
theorem w_alone : about1.alone = true := by decide +kernel
set_option maxRecDepth 65536 in
theorem w_named : about1.methodNamed? x = some theMethod := by decide +kernel
set_option maxRecDepth 65536 in
theorem w_hears : about1.hears theMethod below0 = true := by decide +kernel
set_option maxRecDepth 65536 in
theorem w_ripe : about1.ripe theMethod args0 below0 = true := by decide +kernel
theorem w_running : about1.status = .running := rfl
set_option maxRecDepth 65536 in
theorem w_room : about1.hasRoom e0.platform room_1 = true :=
  launch0.hasRoom_least _ room_1 (by decide +kernel) (by decide +kernel) (by decide +kernel) (by decide +kernel) (by decide +kernel) (by decide +kernel)
theorem allAtoms_all (ts : List Jvm.Cond) (a : Array Jvm.Value) (st : Jvm.State) : (allAtoms ts).before a st = ts.all (fun c => c.before a st) := by
  induction ts with
  | nil => rfl
  | cons c t ih =>
    show (Jvm.Cond.and c (allAtoms t)).before a st = _
    rw [Jvm.Cond.before_and, ih, List.all_cons]
def words1 : List Jvm.Cond := Jvm.Cond.code x code maxLocals ret :: tables_1
/-- a 'code' word, met by the world's own term for the bytes: nothing is compared byte by byte -/
theorem code_word {y : MethodName} {bytes : ByteArray} {mx : Nat} {rt : Option FieldType} {a : Array Value} {s : State} {m : MethodId} {meth : Method} {c : Code} (h1 : s.methodNamed? y = some m) (h2 : s.vm.method? m = some meth) (h3 : meth.code = some c) (h4 : c.code = bytes)
    (h5 : (c.maxLocals == mx && c.exceptionTable.isEmpty && decide (c.maxStack ≤ mostOperands) && decide (meth.sig.returnType = rt) && !meth.locks && decide (parseMethodDescriptor y.desc = some meth.sig)) = true) : (Jvm.Cond.code y bytes mx rt).before a s = true := by
  simp only [Bool.and_eq_true, beq_iff_eq, Bool.not_eq_true', decide_eq_true_eq] at h5
  obtain ⟨⟨⟨⟨⟨g1, g2⟩, g3⟩, g4⟩, g5⟩, g6⟩ := h5
  simp [Cond.before, Cond.holds, Cond.value, h1, h2, h3, h4, g1, g2, g3, g4, g5, g6]
def isCode : Jvm.Cond → Bool
  | .code _ _ _ _ => true
  | _ => false
theorem all_split {L : List Jvm.Cond} {P : Jvm.Cond → Bool} (h1 : L.all (fun c => isCode c || P c) = true) (h2 : ∀ c ∈ L.filter isCode, P c = true) : L.all P = true := by
  refine List.all_eq_true.mpr fun c hc => ?_
  have h := List.all_eq_true.mp h1 c hc
  rcases Bool.eq_false_or_eq_true (isCode c) with hi | hi
  · exact h2 c (List.mem_filter.mpr ⟨hc, hi⟩)
  · simpa [hi] using h
set_option maxRecDepth 65536 in
theorem w_c0 : (Jvm.Cond.code x code maxLocals ret).before args0 about1 = true := code_word (m := ⟨1, 1⟩) (meth := k1m1) (c := k1c1) (by decide +kernel) rfl rfl rfl (by decide +kernel)
set_option maxRecDepth 65536 in
theorem w_c1 : (Jvm.Cond.code ({ cls := "com/example/latchwork/latchwork/Key", name := "<init>", desc := "(I[B)V" } : Jvm.MethodName) prog_25_method_1_code (3 : Nat) (Option.none : Option Jvm.ClassFile.FieldType)).before args0 about1 = true := code_word (m := ⟨3, 0⟩) (meth := k3m0) (c := k3c0) (by decide +kernel) rfl rfl rfl (by decide +kernel)
set_option maxRecDepth 65536 in
theorem w_c2 : (Jvm.Cond.code ({ cls := "java/lang/Object", name := "<init>", desc := "()V" } : Jvm.MethodName) object_method_1_code (1 : Nat) (Option.none : Option Jvm.ClassFile.FieldType)).before args0 about1 = true := code_word (m := ⟨0, 0⟩) (meth := k0m0) (c := k0c0) (by decide +kernel) rfl rfl rfl (by decide +kernel)
set_option maxRecDepth 65536 in
theorem w_c3 : (Jvm.Cond.code ({ cls := "java/util/Arrays", name := "hashCode", desc := "([B)I" } : Jvm.MethodName) jdk_65_method_153_code (1 : Nat) (Option.some Jvm.ClassFile.FieldType.int)).before args0 about1 = true := code_word (m := ⟨4, 1⟩) (meth := k4m1) (c := k4c1) (by decide +kernel) rfl rfl rfl (by decide +kernel)
set_option maxRecDepth 65536 in
theorem w_c4 : (Jvm.Cond.code ({ cls := "jdk/internal/util/ArraysSupport", name := "vectorizedHashCode", desc := "(Ljava/lang/Object;IIII)I" } : Jvm.MethodName) jdk_48_method_4_code (5 : Nat) (Option.some Jvm.ClassFile.FieldType.int)).before args0 about1 = true := code_word (m := ⟨5, 1⟩) (meth := k5m1) (c := k5c1) (by decide +kernel) rfl rfl rfl (by decide +kernel)
set_option maxRecDepth 65536 in
theorem w_c5 : (Jvm.Cond.code ({ cls := "jdk/internal/util/ArraysSupport", name := "hashCode", desc := "(I[BII)I" } : Jvm.MethodName) jdk_48_method_6_code (6 : Nat) (Option.some Jvm.ClassFile.FieldType.int)).before args0 about1 = true := code_word (m := ⟨5, 2⟩) (meth := k5m2) (c := k5c2) (by decide +kernel) rfl rfl rfl (by decide +kernel)
set_option maxRecDepth 65536 in
theorem w_c6 : (Jvm.Cond.code ({ cls := "com/example/latchwork/latchwork/Key", name := "isEnd", desc := "()Z" } : Jvm.MethodName) prog_25_method_5_code (1 : Nat) (Option.some Jvm.ClassFile.FieldType.boolean)).before args0 about1 = true := code_word (m := ⟨3, 2⟩) (meth := k3m2) (c := k3c2) (by decide +kernel) rfl rfl rfl (by decide +kernel)
set_option maxRecDepth 65536 in
theorem w_c7 : (Jvm.Cond.code ({ cls := "com/example/latchwork/latchwork/Key", name := "end", desc := "(I)Lcom/example/latchwork/latchwork/Key;" } : Jvm.MethodName) prog_25_method_2_code (1 : Nat) (Option.some (Jvm.ClassFile.FieldType.object "com/example/latchwork/latchwork/Key"))).before args0 about1 = true := code_word (m := ⟨3, 1⟩) (meth := k3m1) (c := k3c1) (by decide +kernel) rfl rfl rfl (by decide +kernel)
def codes1 : List Jvm.Cond := [Jvm.Cond.code x code maxLocals ret, Jvm.Cond.code ({ cls := "com/example/latchwork/latchwork/Key", name := "<init>", desc := "(I[B)V" } : Jvm.MethodName) prog_25_method_1_code (3 : Nat) (Option.none : Option Jvm.ClassFile.FieldType), Jvm.Cond.code ({ cls := "java/lang/Object", name := "<init>", desc := "()V" } : Jvm.MethodName) object_method_1_code (1 : Nat) (Option.none : Option Jvm.ClassFile.FieldType), Jvm.Cond.code ({ cls := "java/util/Arrays", name := "hashCode", desc := "([B)I" } : Jvm.MethodName) jdk_65_method_153_code (1 : Nat) (Option.some Jvm.ClassFile.FieldType.int), Jvm.Cond.code ({ cls := "jdk/internal/util/ArraysSupport", name := "vectorizedHashCode", desc := "(Ljava/lang/Object;IIII)I" } : Jvm.MethodName) jdk_48_method_4_code (5 : Nat) (Option.some Jvm.ClassFile.FieldType.int), Jvm.Cond.code ({ cls := "jdk/internal/util/ArraysSupport", name := "hashCode", desc := "(I[BII)I" } : Jvm.MethodName) jdk_48_method_6_code (6 : Nat) (Option.some Jvm.ClassFile.FieldType.int), Jvm.Cond.code ({ cls := "com/example/latchwork/latchwork/Key", name := "isEnd", desc := "()Z" } : Jvm.MethodName) prog_25_method_5_code (1 : Nat) (Option.some Jvm.ClassFile.FieldType.boolean), Jvm.Cond.code ({ cls := "com/example/latchwork/latchwork/Key", name := "end", desc := "(I)Lcom/example/latchwork/latchwork/Key;" } : Jvm.MethodName) prog_25_method_2_code (1 : Nat) (Option.some (Jvm.ClassFile.FieldType.object "com/example/latchwork/latchwork/Key"))]
set_option maxRecDepth 65536 in
theorem codes_eq : words1.filter isCode = codes1 := rfl
theorem w_codes : ∀ c ∈ words1.filter isCode, c.before args0 about1 = true := by
  rw [codes_eq]
  intro c hc
  simp only [codes1, List.mem_cons, List.not_mem_nil, or_false] at hc
  rcases hc with rfl | rfl | rfl | rfl | rfl | rfl | rfl | rfl
  · exact w_c0
  · exact w_c1
  · exact w_c2
  · exact w_c3
  · exact w_c4
  · exact w_c5
  · exact w_c6
  · exact w_c7
set_option maxRecDepth 65536 in
theorem w_t1 : (words1.take 24).all (fun c => isCode c || c.before args0 about1) = true := by decide +kernel
set_option maxRecDepth 65536 in
theorem w_t2 : (words1.drop 24).all (fun c => isCode c || c.before args0 about1) = true := by decide +kernel
theorem w_tables : (allAtoms (Jvm.Cond.code x code maxLocals ret :: tables_1)).before args0 about1 = true := by
  rw [allAtoms_all]
  show words1.all (fun c => c.before args0 about1) = true
  refine all_split ?_ w_codes
  rw [← List.take_append_drop 24 words1, List.all_append, w_t1, w_t2]
  rfl
set_option maxRecDepth 65536 in
theorem w_case : (Jvm.Cond.and given_1 narrow_1).before args0 about1 = true := by decide +kernel
theorem w_applies : (headSpec (Jvm.Cond.code x code maxLocals ret :: tables_1) room_1).applies x e0.platform about1 = true :=
  (Spec.applies_iff w_frames).mpr ⟨w_running, w_runnable, w_alone, w_named, w_hears, w_ripe, w_room, w_tables⟩
theorem atStart : AtStart classFile x code maxLocals ret World_1 tables_1 room_1 Calls_1 rest_1 Pre_1 launch0 p0 e0 about1 theMethod args0 below0 :=
  ⟨lists_1, trivial, launch0.admits_env _ _ _, launch0.least_env, fairChoices_fair.cas, fairChoices_fair.clock, w_frames, w_args, w_heap, w_applies, trivial, trivial, w_case⟩
end start1
theorem witness_1 : WitnessClaimed_1 := ⟨start1.p0, start1.e0, start1.about1, start1.theMethod, start1.args0, start1.below0, start1.atStart⟩
end Jvm.Pilot.@@N@@
