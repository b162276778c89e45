import JvmDerived
import JvmDerived.Pilot.@@N@@Statement
import JvmDerived.Pilot.@@N@@Code
set_option linter.unusedVariables false
set_option linter.unusedSimpArgs false
namespace Jvm.OwnKit
open Sem ClassFile Op Lib Jvm.Stand Jvm.Free Jvm.LawKit Jvm.RoadKit
section Kit
variable {p : Program} {l : Launch} {e : Env} {R : Room} {s : State} {m : MethodId} {args : Array Value} {below : List Frame} {meth : Method} {c : Code} {T : State} {locs : List Loc} {cells slots : Nat} {Z : State} {a0 : Array Value} {h h0 : Heap} {kc ks : Nat} {Q : Option Value → Heap → List Loc → Prop}
/-- from this state the body comes to its end, and Q holds of what it returns, of the heap there and of the places written -/
def Go (p : Program) (e : Env) (below : List Frame) (s : State) (kc ks : Nat) (Q : Option Value → Heap → List Loc → Prop) (a : State) : Prop :=
  ∃ (t : State) (o : Outcome), Steps p.tables e below a t ∧ t.status = .running ∧ Ended t below o ∧ ∃ v L, o = .returned v ∧ Q v t.heap L ∧ FrameEnd s o t L kc ks
theorem Go.of {a b : State} (st : ∀ t, Steps p.tables e below b t → Steps p.tables e below a t) (k : Go p e below s kc ks Q b) : Go p e below s kc ks Q a := by
  obtain ⟨t, o, h, r⟩ := k
  exact ⟨t, o, st t h, r⟩
theorem pad (X : Stand p l e R s m args below meth c T locs cells slots) {cells' slots' : Nat} (hc : cells ≤ cells') (hs : slots ≤ slots') : Stand p l e R s m args below meth c T locs cells' slots' :=
  ⟨X.admits, X.cas, X.clock, X.frames, X.room, X.hears, X.method, X.code, X.here, X.tail, X.warmed, X.limits, X.bytes, X.same.mono hc hs⟩
theorem Go.leave (X : Stand p l e R s m args below meth c T locs cells slots) (hlk : meth.locks = false) {v : Option Value} (hv : meth.sig.returnType = none → v = none) {g : JFrame}
    (st : ∀ fs, (∀ (f : JFrame) (acts : List Action), f.method = m → f.locked = none → f.entered = [] → (doReturn e (T.setTop f) acts v).1 = T.setFrames fs) → Steps p.tables e below (T.setTop g) (T.setFrames fs))
    (hc : cells ≤ kc) (hs : slots ≤ ks) (q : Q v T.heap locs) : Go p e below s kc ks Q (T.setTop g) := by
  obtain ⟨fs, hr, hrun, hended, hW, hsame⟩ := X.leave hv hlk
  exact ⟨_, _, st fs hr, hrun, hended, v, locs, rfl, q, ⟨_, rfl⟩, hW, hsame.mono hc hs⟩
theorem Go.retI (X : Stand p l e R s m args below meth c T locs cells slots) (hx : p.tables.exec = Jvm.exec) (hlk : meth.locks = false) (hret : meth.sig.returnType = some .int) {pc : Nat} {Ls : Array Slot} {z : Int32} {rest : List Value}
    (hd : decode c.code pc = .ok (.ireturn, 1)) (hc : cells ≤ kc) (hs : slots ≤ ks) (q : Q (some (.int z)) T.heap locs) : Go p e below s kc ks Q (T.setTop (mkF m pc Ls (.int z :: rest))) :=
  Go.leave X hlk (fun h => by rw [hret] at h; cases h) (fun fs hr => retOut X hx hret rfl (Or.inl ⟨rfl, Or.inl rfl, z, rfl⟩) hd hr) hc hs q
theorem Go.retN (X : Stand p l e R s m args below meth c T locs cells slots) (hx : p.tables.exec = Jvm.exec) (hlk : meth.locks = false) {t : FieldType} (hret : meth.sig.returnType = some t) (ht : t = .boolean ∨ t = .byte ∨ t = .char ∨ t = .short) {pc : Nat} {Ls : Array Slot} {z : Int32} {rest : List Value}
    (hd : decode c.code pc = .ok (.ireturn, 1)) (hz : nar t z = z) (hc : cells ≤ kc) (hs : slots ≤ ks) (q : Q (some (.int z)) T.heap locs) : Go p e below s kc ks Q (T.setTop (mkF m pc Ls (.int z :: rest))) :=
  Go.leave X hlk (fun h => by rw [hret] at h; cases h) (fun fs hr => RoadKit.retN X hx hret ht hd (by rw [hz]; exact hr)) hc hs q
theorem Go.retJ (X : Stand p l e R s m args below meth c T locs cells slots) (hx : p.tables.exec = Jvm.exec) (hlk : meth.locks = false) (hret : meth.sig.returnType = some .long) {pc : Nat} {Ls : Array Slot} {z : Int64} {rest : List Value}
    (hd : decode c.code pc = .ok (.lreturn, 1)) (hc : cells ≤ kc) (hs : slots ≤ ks) (q : Q (some (.long z)) T.heap locs) : Go p e below s kc ks Q (T.setTop (mkF m pc Ls (.long z :: rest))) :=
  Go.leave X hlk (fun h => by rw [hret] at h; cases h) (fun fs hr => retOut X hx hret rfl (Or.inr (Or.inl ⟨rfl, rfl, z, rfl⟩)) hd hr) hc hs q
theorem Go.retA (X : Stand p l e R s m args below meth c T locs cells slots) (hx : p.tables.exec = Jvm.exec) (hlk : meth.locks = false) {t : FieldType} (hret : meth.sig.returnType = some t) (ht : t.isReference = true) {pc : Nat} {Ls : Array Slot} {z : Value} {rest : List Value} (hz : z.isRef = true)
    (hd : decode c.code pc = .ok (.areturn, 1)) (hc : cells ≤ kc) (hs : slots ≤ ks) (q : Q (some z) T.heap locs) : Go p e below s kc ks Q (T.setTop (mkF m pc Ls (z :: rest))) :=
  Go.leave X hlk (fun h => by rw [hret] at h; cases h) (fun fs hr => retOut X hx hret (by cases t <;> first | rfl | (simp [FieldType.isReference] at ht; done)) (Or.inr (Or.inr (Or.inr (Or.inr ⟨rfl, ht, hz⟩)))) hd hr) hc hs q
theorem Go.retV (X : Stand p l e R s m args below meth c T locs cells slots) (hx : p.tables.exec = Jvm.exec) (hlk : meth.locks = false) (hret : meth.sig.returnType = none) {pc : Nat} {Ls : Array Slot}
    (hd : decode c.code pc = .ok (.return_, 1)) (hc : cells ≤ kc) (hs : slots ≤ ks) (q : Q none T.heap locs) : Go p e below s kc ks Q (T.setTop (mkF m pc Ls [])) :=
  Go.leave X hlk (fun _ => rfl) (fun fs hr => X.returnOut hx hret hd hr) hc hs q
/-- a body's contract: called with these arguments over this heap it returns, and Q holds -/
def Con (l : Launch) (Z : State) (y : MethodName) (bytes : ByteArray) (maxL : Nat) (ret : Option FieldType) (rm : Room) (as' : Array Value) (h0 : Heap) (Q : Option Value → Heap → List Loc → Prop) : Prop :=
  ∀ ws : List Cond, MetFree l y (head1 (Cond.code y bytes maxL ret :: ws) rm) (fun a U => a = as' ∧ Z.Warmed39 U.vm ∧ U.heap = h0) (fun _ _ _ _ _ => True) (fun _ U o U' => ∃ v L, o = .returned v ∧ Q v U'.heap L ∧ FrameEnd U o U' L rm.cells rm.slots)
theorem Con.intro {y : MethodName} {bytes : ByteArray} {maxL : Nat} {ret : Option FieldType} {rm : Room} {as' : Array Value} {gf : MethodId → JFrame} (hpl : plainFor y = true) (hef : ∀ m, entryFrame m as' maxL = gf m)
    (body : ∀ (p : Program) (e : Env) (s : State) (m : MethodId) (below : List Frame) (meth : Method) (c : Code) (s₁ : State), p.tables.exec = Jvm.exec → c.code = bytes → c.maxLocals = maxL → Z.Warmed39 s.vm → s.vm.findClass y.cls = some m.cls → meth.name = y.name → meth.sig.returnType = ret → meth.locks = false →
      Stand p l e rm s m as' below meth c s₁ [] 0 0 → s₁.heap = h0 → Go p e below s rm.cells rm.slots Q (s₁.setTop (gf m))) : Con l Z y bytes maxL ret rm as' h0 Q := by
  intro ws
  refine MetFree.of_bodySF hpl hisR ?_
  intro p e s m args below meth c s₁ Bd hml hP hK
  obtain ⟨rfl, hZ, hh⟩ := hP
  have k := body p e s m below meth c s₁ Bd.exec Bd.bytes hml hZ (findClass_of_methodNamed Bd.named) (name_of_methodNamed Bd.named Bd.method).1 Bd.returns Bd.notSynchronized (Stand.of_body Bd) (by rw [← hh, Bd.state]; rfl)
  rw [← hef m] at k
  exact k
theorem Go.static (X : Stand p l e R s m args below meth c T locs cells slots) (hx : p.tables.exec = Jvm.exec) (hZ : Z.Warmed39 s.vm) {own : String} {index : Nat} {y : MethodName} {bytes : ByteArray} {maxL : Nat} {ret : Option FieldType} {rm : Room} {Q' : Option Value → Heap → List Loc → Prop} {argsL : List Value}
    (hown : s.vm.findClass own = some m.cls) (w1 : (Cond.methodLink own index y).before a0 Z = true) (w2 : (Cond.static y).before a0 Z = true) (w3 : (Cond.initialized y.cls).before a0 Z = true) (w4 : (Cond.code y bytes maxL ret).before a0 Z = true)
    (hy : y.cls ≠ "java/lang/invoke/MethodHandle" ∧ y.cls ≠ "java/lang/invoke/VarHandle") (W : Nat) (eT : T.heap = h) (K : Con l Z y bytes maxL ret rm argsL.toArray h Q') (hf : rm.frames + 1 ≤ R.frames) (hlo : W + (maxL + 11) + rm.locals ≤ R.locals) (hc : cells + rm.cells ≤ R.cells) (hs : slots + rm.slots ≤ R.slots)
    {g : JFrame} (hg : g.method = m) (hsize : g.locals.size = c.maxLocals) {rest : List Value} (hlen : ∀ sig, parseMethodDescriptor y.desc = some sig → argsL.length = sig.parameters.length) (hstack : g.stack = argsL.reverse ++ rest) (hW : 2 * g.monitorRoom + (rest.map fun v => v.category).sum ≤ W)
    (hd : decode c.code g.pc = .ok (.invokestatic index, 3))
    (k : ∀ (T' : State) (v : Option Value) (L : List Loc), Stand p l e R s m args below meth c T' (locs ++ L) (cells + rm.cells) (slots + rm.slots) → Q' v T'.heap L → Go p e below s kc ks Q (T'.setTop { g with pc := g.pc + 3, stack := v.toList ++ rest })) : Go p e below s kc ks Q (T.setTop g) := by
  obtain ⟨v, _, ⟨T', L', k', n'⟩, -, X', ⟨Lc, hQ, l1, l2, l3⟩, st⟩ := Jvm.LawKit.callS X hx hown (mvT hZ w1) (mvT hZ w2) (mvT hZ w3) (mvT hZ w4) hy (backOf (W := W) (K []) hZ w4 w3 hf hlo) hg hsize hlen hstack hW hd (fun _ _ => ⟨rfl, eT, hc, hs⟩)
  dsimp only [Pt.U, Pt.locs, Pt.cells, Pt.slots] at X' l1 l2 l3 st hQ
  subst l1 l2 l3
  exact Go.of st (k T' v Lc X' hQ)
theorem Go.special (X : Stand p l e R s m args below meth c T locs cells slots) (hx : p.tables.exec = Jvm.exec) (hZ : Z.Warmed39 s.vm) {own : String} {index : Nat} {y : MethodName} {bytes : ByteArray} {maxL : Nat} {rm : Room} {Q' : Option Value → Heap → List Loc → Prop} {a : Addr} {argsL : List Value} (hy1 : y.name = "<init>")
    (hown : s.vm.findClass own = some m.cls) (w1 : (Cond.methodLink own index y).before a0 Z = true) (w2 : (Cond.instanceMethod y).before a0 Z = true) (w3 : (Cond.initialized y.cls).before a0 Z = true) (w4 : (Cond.code y bytes maxL none).before a0 Z = true)
    (hy : y.cls ≠ "java/lang/invoke/MethodHandle" ∧ y.cls ≠ "java/lang/invoke/VarHandle") (W : Nat) (eT : T.heap = h) (K : Con l Z y bytes maxL none rm (Value.ref a :: argsL).toArray h Q') (hf : rm.frames + 1 ≤ R.frames) (hlo : W + (maxL + 11) + rm.locals ≤ R.locals) (hc : cells + rm.cells ≤ R.cells) (hs : slots + rm.slots ≤ R.slots)
    {g : JFrame} (hg : g.method = m) (hsize : g.locals.size = c.maxLocals) {rest : List Value} (hlen : ∀ sig, parseMethodDescriptor y.desc = some sig → argsL.length = sig.parameters.length) (hstack : g.stack = argsL.reverse ++ .ref a :: rest) (hW : 2 * g.monitorRoom + (rest.map fun v => v.category).sum ≤ W)
    (hd : decode c.code g.pc = .ok (.invokespecial index, 3))
    (k : ∀ (T' : State) (v : Option Value) (L : List Loc), Stand p l e R s m args below meth c T' (locs ++ L) (cells + rm.cells) (slots + rm.slots) → Q' v T'.heap L → Go p e below s kc ks Q (T'.setTop { g with pc := g.pc + 3, stack := v.toList ++ rest })) : Go p e below s kc ks Q (T.setTop g) := by
  obtain ⟨v, _, ⟨T', L', k', n'⟩, -, X', ⟨Lc, hQ, l1, l2, l3⟩, st⟩ := X.specialBack hx hy1 hown (mvT hZ w1) (mvT hZ w2) (mvT hZ w4) hy (backOf (W := W) (K []) hZ w4 w3 hf hlo) hg hsize (Steps.refl _) hlen hstack hW hd (fun _ _ => ⟨rfl, eT, hc, hs⟩)
  dsimp only [Pt.U, Pt.locs, Pt.cells, Pt.slots] at X' l1 l2 l3 st hQ
  subst l1 l2 l3
  exact Go.of (fun _ q => st.trans q) (k T' v Lc X' hQ)
theorem Go.virtual (X : Stand p l e R s m args below meth c T locs cells slots) (hx : p.tables.exec = Jvm.exec) (hZ : Z.Warmed39 s.vm) {own C : String} {index : Nat} {y z : MethodName} {bytes : ByteArray} {maxL : Nat} {ret : Option FieldType} {rm : Room} {Q' : Option Value → Heap → List Loc → Prop} {a : Addr} {argsL : List Value}
    (hown : s.vm.findClass own = some m.cls) (w1 : (Cond.methodLink own index y).before a0 Z = true) (w2 : (Cond.declares y).before a0 Z = true) (hnf : NotFace s y) (w5 : (Cond.selects C y z).before a0 Z = true) (w6 : (Cond.instanceMethod z).before a0 Z = true) (w3 : (Cond.initialized z.cls).before a0 Z = true) (w4 : (Cond.code z bytes maxL ret).before a0 Z = true)
    (hy : y.cls ≠ "java/lang/invoke/MethodHandle" ∧ y.cls ≠ "java/lang/invoke/VarHandle") (W : Nat) (eT : T.heap = h) (E : Exa Z h a C) (K : Con l Z z bytes maxL ret rm (Value.ref a :: argsL).toArray h Q') (hf : rm.frames + 1 ≤ R.frames) (hlo : W + (maxL + 11) + rm.locals ≤ R.locals) (hc : cells + rm.cells ≤ R.cells) (hs : slots + rm.slots ≤ R.slots)
    {g : JFrame} (hg : g.method = m) (hsize : g.locals.size = c.maxLocals) {rest : List Value} (hlen : ∀ sig, parseMethodDescriptor y.desc = some sig → argsL.length = sig.parameters.length) (hstack : g.stack = argsL.reverse ++ .ref a :: rest) (hW : 2 * g.monitorRoom + (rest.map fun v => v.category).sum ≤ W)
    (hd : decode c.code g.pc = .ok (.invokevirtual index, 3))
    (k : ∀ (T' : State) (v : Option Value) (L : List Loc), Stand p l e R s m args below meth c T' (locs ++ L) (cells + rm.cells) (slots + rm.slots) → Q' v T'.heap L → Go p e below s kc ks Q (T'.setTop { g with pc := g.pc + 3, stack := v.toList ++ rest })) : Go p e below s kc ks Q (T.setTop g) := by
  obtain ⟨cq, kq, qa, -, qc⟩ := isOf hZ eT E
  obtain ⟨v, _, ⟨T', L', k', n'⟩, -, X', ⟨Lc, hQ, l1, l2, l3⟩, st⟩ := X.virtualBack hx hown (mvT hZ w1) (mvT hZ w2) hnf (mvT hZ w5) (mvT hZ w6) hy (backOf (W := W) (K []) hZ w4 w3 hf hlo) qa qc hg hsize (Steps.refl _) hlen hstack hW hd (fun _ _ => ⟨rfl, eT, hc, hs⟩)
  dsimp only [Pt.U, Pt.locs, Pt.cells, Pt.slots] at X' l1 l2 l3 st hQ
  subst l1 l2 l3
  exact Go.of (fun _ q => st.trans q) (k T' v Lc X' hQ)
theorem Go.virtualUp (X : Stand p l e R s m args below meth c T locs cells slots) (hx : p.tables.exec = Jvm.exec) (hZ : Z.Warmed39 s.vm) {own C owner : String} {index : Nat} {y z : MethodName} {bytes : ByteArray} {maxL : Nat} {ret : Option FieldType} {rm : Room} {Q' : Option Value → Heap → List Loc → Prop} {a : Addr} {argsL : List Value}
    (hown : s.vm.findClass own = some m.cls) (w1 : (Cond.methodLink own index y).before a0 Z = true) (w2 : (Cond.sameMethod y.cls owner y.name y.desc).before a0 Z = true) (w7 : (Cond.declares ⟨owner, y.name, y.desc⟩).before a0 Z = true) (w5 : (Cond.selects C y z).before a0 Z = true) (w6 : (Cond.instanceMethod z).before a0 Z = true) (w3 : (Cond.initialized z.cls).before a0 Z = true) (w4 : (Cond.code z bytes maxL ret).before a0 Z = true)
    (hy : owner ≠ "java/lang/invoke/MethodHandle" ∧ owner ≠ "java/lang/invoke/VarHandle") (W : Nat) (eT : T.heap = h) (E : Exa Z h a C) (K : Con l Z z bytes maxL ret rm (Value.ref a :: argsL).toArray h Q') (hf : rm.frames + 1 ≤ R.frames) (hlo : W + (maxL + 11) + rm.locals ≤ R.locals) (hc : cells + rm.cells ≤ R.cells) (hs : slots + rm.slots ≤ R.slots)
    {g : JFrame} (hg : g.method = m) (hsize : g.locals.size = c.maxLocals) {rest : List Value} (hlen : ∀ sig, parseMethodDescriptor y.desc = some sig → argsL.length = sig.parameters.length) (hstack : g.stack = argsL.reverse ++ .ref a :: rest) (hW : 2 * g.monitorRoom + (rest.map fun v => v.category).sum ≤ W)
    (hd : decode c.code g.pc = .ok (.invokevirtual index, 3))
    (k : ∀ (T' : State) (v : Option Value) (L : List Loc), Stand p l e R s m args below meth c T' (locs ++ L) (cells + rm.cells) (slots + rm.slots) → Q' v T'.heap L → Go p e below s kc ks Q (T'.setTop { g with pc := g.pc + 3, stack := v.toList ++ rest })) : Go p e below s kc ks Q (T.setTop g) := by
  obtain ⟨cq, kq, qa, -, qc⟩ := isOf hZ eT E
  obtain ⟨v, _, ⟨T', L', k', n'⟩, -, X', ⟨Lc, hQ, l1, l2, l3⟩, st⟩ := X.virtualBackUp hx hown (mvT hZ w1) (mvT hZ w2) (mvT hZ w7) hy (mvT hZ w5) (mvT hZ w6) (backOf (W := W) (K []) hZ w4 w3 hf hlo) qa qc hg hsize (Steps.refl _) hlen hstack hW hd (fun _ _ => ⟨rfl, eT, hc, hs⟩)
  dsimp only [Pt.U, Pt.locs, Pt.cells, Pt.slots] at X' l1 l2 l3 st hQ
  subst l1 l2 l3
  exact Go.of (fun _ q => st.trans q) (k T' v Lc X' hQ)
/-- a cast of what may be null -/
theorem castV (X : Stand p l e R s m args below meth c T locs cells slots) (hx : p.tables.exec = Jvm.exec) (hZ : Z.Warmed39 s.vm) {own K : String} {index : Nat} (hown : s.vm.findClass own = some m.cls) (w : (Cond.classLink own index K).before a0 Z = true) (eT : T.heap = h) {v : Value} (F : v = .null ∨ ∃ a, v = .ref a ∧ Ins Z h a K true)
    {g : JFrame} (hg : g.method = m) {rest : List Value} (hs : g.stack = v :: rest) (hd : decode c.code g.pc = .ok (.checkcast index, 3)) : ∃ T', Stand p l e R s m args below meth c T' locs cells slots ∧ T'.heap = h ∧ ∀ target, Steps p.tables e below (T'.setTop { g with pc := g.pc + 3 }) target → Steps p.tables e below (T.setTop g) target := by
  rcases F with rfl | ⟨a, rfl, I⟩
  · exact ⟨T, X, eT, fun target q => X.checkcastNull hx hg hs hd target q⟩
  · exact castY X hx hZ hown w eT I hg hs hd
end Kit
end Jvm.OwnKit
namespace Jvm.OwnKit
open Sem ClassFile Op Lib Jvm.Stand Jvm.Free Jvm.LawKit Jvm.RoadKit
section Arrays
variable {p : Program} {l : Launch} {e : Env} {R : Room} {s : State} {m : MethodId} {args : Array Value} {below : List Frame} {meth : Method} {c : Code} {T : State} {locs : List Loc} {cells slots : Nat} {Z : State} {a0 : Array Value} {h h' : Heap} {a b : Addr} {k : ClassId} {ty : FieldType} {n i : Nat} {f : Nat → Value} {sl : Nat} {v w : Value} {ws : List Addr} {j : Int32}
/-- the array at a: its class, its kind, its length, what it holds -/
def AF (Z : State) (h : Heap) (a : Addr) (k : ClassId) (ty : FieldType) (n : Nat) (f : Nat → Value) : Prop :=
  ∃ c : Cell, Arr Z h a c ty ∧ c.cls = k ∧ c.slots.size = n ∧ n < 2 ^ 31 ∧ ∀ i, i < n → c.slots[i]? = some (f i)
def updV (f : Nat → Value) (i : Nat) (v : Value) : Nat → Value := fun k => if k = i then v else f k
def upI (f : Nat → Int32) (i : Nat) (v : Int32) : Nat → Int32 := fun k => if k = i then v else f k
/-- the index j is the place i of an array of n -/
def Ix (j : Int32) (i n : Nat) : Prop := j.toNatClampNeg = i ∧ ¬ j < 0 ∧ i < n
theorem Ix.not_out {c : Cell} (q : Ix j i n) (S : c.slots.size = n) : ¬ (j < 0 ∨ c.slots.size ≤ j.toNatClampNeg) := by
  obtain ⟨q1, q2, q3⟩ := q
  rintro (r | r)
  · exact q2 r
  · rw [q1, S] at r; exact absurd q3 (Nat.not_lt.mpr r)
theorem AF.new {z : Int32} {d : Value} (A : Arr Z h a (newA k ty z) ty) (q : ¬ z < 0) (e : z.toNatClampNeg = n) (hd : defaultValue ty = d) : AF Z h a k ty n (fun _ => d) :=
  ⟨_, A, rfl, by rw [sz_new, e], by rw [← e]; exact (back32 q).2, fun i hi => by simp [newA, e, hi, hd]⟩
theorem AF.lt (F : AF Z h a k ty n f) : a < h.size := by obtain ⟨c, A, -⟩ := F; exact A.lt
theorem AF.ext (F : AF Z h a k ty n f) (E : Ext h h') : AF Z h' a k ty n f := by obtain ⟨c, A, r⟩ := F; exact ⟨c, A.ext E, r⟩
theorem AF.other (F : AF Z h b k ty n f) (W : Wr h h' a sl v) (q : b ≠ a) : AF Z h' b k ty n f := by obtain ⟨c, A, r⟩ := F; exact ⟨c, A.other W q, r⟩
theorem AF.keep (F : AF Z h a k ty n f) (K : Keep h h' ws) (q : a ∉ ws) : AF Z h' a k ty n f := by obtain ⟨c, A, r⟩ := F; exact ⟨c, ⟨K.2.1 a c A.1 q, A.2⟩, r⟩
theorem AF.cast {g : Nat → Value} (F : AF Z h a k ty n f) (q : ∀ i, i < n → f i = g i) : AF Z h a k ty n g := by obtain ⟨c, A, r1, r2, r3, H⟩ := F; exact ⟨c, A, r1, r2, r3, fun i hi => by rw [H i hi, q i hi]⟩
theorem AF.set (F : AF Z h a k ty n f) (W : Wr h h' a j.toNatClampNeg v) (q : Ix j i n) : AF Z h' a k ty n (updV f i v) := by
  obtain ⟨c, A, r1, r2, r3, H⟩ := F
  refine ⟨_, Arr.same W A, r1, by rw [sz_set]; exact r2, r3, fun x hx => ?_⟩
  rw [q.1]
  by_cases e : x = i
  · subst e
    simp [Cell.setSlot, updV, r2, hx]
  · have : (c.setSlot i v).slots[x]? = c.slots[x]? := Array.getElem?_setIfInBounds_ne (Ne.symm e)
    rw [this, H x hx]; simp [updV, e]
theorem AF.toI {g : Nat → Int32} {x : Int32} (F : AF Z h a k ty n (updV (fun i => .int (g i)) i (.int x))) : AF Z h a k ty n (fun j => .int ((upI g i x) j)) := F.cast fun j _ => by simp only [updV, upI]; split <;> rfl
theorem AF.length (F : AF Z h a k ty n f) (X : Stand p l e R s m args below meth c T locs cells slots) (hx : p.tables.exec = Jvm.exec) (hZ : Z.Warmed39 s.vm) (eT : T.heap = h) {z : Int32} (hz : n.toInt32 = z) {g : JFrame} (hg : g.method = m) {rest : List Value} (hs : g.stack = .ref a :: rest) (hd : decode c.code g.pc = .ok (.arraylength, 1)) {target : State}
    (q : Steps p.tables e below (T.setTop { g with pc := g.pc + 1, stack := .int z :: rest }) target) : Steps p.tables e below (T.setTop g) target := by
  obtain ⟨cl, A, r1, r2, r3, H⟩ := F
  refine X.arraylength hx (by rw [eT]; exact A.1) (State.isArrayOf_alike hZ.alike A.2.1) hg hs hd _ ?_
  rw [r2, hz]
  exact q
theorem AF.iaload (F : AF Z h a k .int n f) (X : Stand p l e R s m args below meth c T locs cells slots) (hx : p.tables.exec = Jvm.exec) (hZ : Z.Warmed39 s.vm) (eT : T.heap = h) (hi : Ix j i n) (hv : f i = v) {g : JFrame} (hg : g.method = m) {rest : List Value} (hs : g.stack = .int j :: .ref a :: rest) (hd : decode c.code g.pc = .ok (.iaload, 1)) {target : State}
    (q : Steps p.tables e below (T.setTop { g with pc := g.pc + 1, stack := v :: rest }) target) : Steps p.tables e below (T.setTop g) target := by
  obtain ⟨cl, A, r1, r2, r3, H⟩ := F
  exact X.iaload hx (by rw [eT]; exact A.1) (State.isArrayOf_alike hZ.alike A.2.1) A.2.2 (hi.not_out r2) (by rw [hi.1, H i hi.2.2, hv]) hg hs hd _ q
theorem AF.caload (F : AF Z h a k .char n f) (X : Stand p l e R s m args below meth c T locs cells slots) (hx : p.tables.exec = Jvm.exec) (hZ : Z.Warmed39 s.vm) (eT : T.heap = h) (hi : Ix j i n) (hv : f i = v) {g : JFrame} (hg : g.method = m) {rest : List Value} (hs : g.stack = .int j :: .ref a :: rest) (hd : decode c.code g.pc = .ok (.caload, 1)) {target : State}
    (q : Steps p.tables e below (T.setTop { g with pc := g.pc + 1, stack := v :: rest }) target) : Steps p.tables e below (T.setTop g) target := by
  obtain ⟨cl, A, r1, r2, r3, H⟩ := F
  exact X.caload hx (by rw [eT]; exact A.1) (State.isArrayOf_alike hZ.alike A.2.1) A.2.2 (hi.not_out r2) (by rw [hi.1, H i hi.2.2, hv]) hg hs hd _ q
theorem AF.baload (F : AF Z h a k .byte n f) (X : Stand p l e R s m args below meth c T locs cells slots) (hx : p.tables.exec = Jvm.exec) (hZ : Z.Warmed39 s.vm) (eT : T.heap = h) (hi : Ix j i n) (hv : f i = v) {g : JFrame} (hg : g.method = m) {rest : List Value} (hs : g.stack = .int j :: .ref a :: rest) (hd : decode c.code g.pc = .ok (.baload, 1)) {target : State}
    (q : Steps p.tables e below (T.setTop { g with pc := g.pc + 1, stack := v :: rest }) target) : Steps p.tables e below (T.setTop g) target := by
  obtain ⟨cl, A, r1, r2, r3, H⟩ := F
  exact X.baloadBytes hx (by rw [eT]; exact A.1) (State.isArrayOf_alike hZ.alike A.2.1) A.2.2 (hi.not_out r2) (by rw [hi.1, H i hi.2.2, hv]) hg hs hd _ q
theorem AF.aaload (F : AF Z h a k ty n f) (hty : ty.isReference = true) (X : Stand p l e R s m args below meth c T locs cells slots) (hx : p.tables.exec = Jvm.exec) (hZ : Z.Warmed39 s.vm) (eT : T.heap = h) (hi : Ix j i n) (hv : f i = v) {g : JFrame} (hg : g.method = m) {rest : List Value} (hs : g.stack = .int j :: .ref a :: rest) (hd : decode c.code g.pc = .ok (.aaload, 1)) {target : State}
    (q : Steps p.tables e below (T.setTop { g with pc := g.pc + 1, stack := v :: rest }) target) : Steps p.tables e below (T.setTop g) target := by
  obtain ⟨cl, A, r1, r2, r3, H⟩ := F
  exact X.aaload hx (by rw [eT]; exact A.1) (State.isArrayOf_alike hZ.alike A.2.1) hty A.2.2 (hi.not_out r2) (by rw [hi.1, H i hi.2.2, hv]) hg hs hd _ q
theorem AF.iastore (F : AF Z h a k .int n f) (X : Stand p l e R s m args below meth c T locs cells slots) (hx : p.tables.exec = Jvm.exec) (hZ : Z.Warmed39 s.vm) (eT : T.heap = h) (hi : Ix j i n) {x : Int32} {g : JFrame} (hg : g.method = m) {rest : List Value} (hs : g.stack = .int x :: .int j :: .ref a :: rest) (hd : decode c.code g.pc = .ok (.iastore, 1)) :
    ∃ T' h', Stand p l e R s m args below meth c T' (locs ++ [⟨a, j.toNatClampNeg⟩]) cells slots ∧ T'.heap = h' ∧ Wr h h' a j.toNatClampNeg (.int x) ∧ AF Z h' a k .int n (updV f i (.int x)) ∧ ∀ target, Steps p.tables e below (T'.setTop { g with pc := g.pc + 1, stack := rest }) target → Steps p.tables e below (T.setTop g) target := by
  have F0 := F
  obtain ⟨cl, A, r1, r2, r3, H⟩ := F
  obtain ⟨T', h', X', e', W', st'⟩ := stI X hx hZ eT A (hi.not_out r2) hg hs hd
  exact ⟨T', h', X', e', W', F0.set W' hi, st'⟩
theorem AF.castore (F : AF Z h a k .char n f) (X : Stand p l e R s m args below meth c T locs cells slots) (hx : p.tables.exec = Jvm.exec) (hZ : Z.Warmed39 s.vm) (eT : T.heap = h) (hi : Ix j i n) {x : Int32} {g : JFrame} (hg : g.method = m) {rest : List Value} (hs : g.stack = .int x :: .int j :: .ref a :: rest) (hd : decode c.code g.pc = .ok (.castore, 1)) :
    ∃ T' h', Stand p l e R s m args below meth c T' (locs ++ [⟨a, j.toNatClampNeg⟩]) cells slots ∧ T'.heap = h' ∧ Wr h h' a j.toNatClampNeg (.int (nar .char x)) ∧ AF Z h' a k .char n (updV f i (.int (nar .char x))) ∧ ∀ target, Steps p.tables e below (T'.setTop { g with pc := g.pc + 1, stack := rest }) target → Steps p.tables e below (T.setTop g) target := by
  have F0 := F
  obtain ⟨cl, A, r1, r2, r3, H⟩ := F
  obtain ⟨T', h', X', e', W', st'⟩ := stC X hx hZ eT A (hi.not_out r2) hg hs hd
  exact ⟨T', h', X', e', W', F0.set W' hi, st'⟩
theorem AF.bastore (F : AF Z h a k .byte n f) (X : Stand p l e R s m args below meth c T locs cells slots) (hx : p.tables.exec = Jvm.exec) (hZ : Z.Warmed39 s.vm) (eT : T.heap = h) (hi : Ix j i n) {x : Int32} {g : JFrame} (hg : g.method = m) {rest : List Value} (hs : g.stack = .int x :: .int j :: .ref a :: rest) (hd : decode c.code g.pc = .ok (.bastore, 1)) :
    ∃ T' h', Stand p l e R s m args below meth c T' (locs ++ [⟨a, j.toNatClampNeg⟩]) cells slots ∧ T'.heap = h' ∧ Wr h h' a j.toNatClampNeg (.int x.toInt8.toInt32) ∧ AF Z h' a k .byte n (updV f i (.int x.toInt8.toInt32)) ∧ ∀ target, Steps p.tables e below (T'.setTop { g with pc := g.pc + 1, stack := rest }) target → Steps p.tables e below (T.setTop g) target := by
  have F0 := F
  obtain ⟨cl, A, r1, r2, r3, H⟩ := F
  obtain ⟨T', h', X', e', W', st'⟩ := stB X hx hZ eT A (hi.not_out r2) hg hs hd
  exact ⟨T', h', X', e', W', F0.set W' hi, st'⟩
theorem AF.aastore (F : AF Z h a k ty n f) (hty : ty.isReference = true) (X : Stand p l e R s m args below meth c T locs cells slots) (hx : p.tables.exec = Jvm.exec) (hZ : Z.Warmed39 s.vm) (eT : T.heap = h) (hi : Ix j i n) (hsto : Sto Z h a v) {g : JFrame} (hg : g.method = m) {rest : List Value} (hs : g.stack = v :: .int j :: .ref a :: rest) (hd : decode c.code g.pc = .ok (.aastore, 1)) :
    ∃ T' h', Stand p l e R s m args below meth c T' (locs ++ [⟨a, j.toNatClampNeg⟩]) cells slots ∧ T'.heap = h' ∧ Wr h h' a j.toNatClampNeg v ∧ AF Z h' a k ty n (updV f i v) ∧ ∀ target, Steps p.tables e below (T'.setTop { g with pc := g.pc + 1, stack := rest }) target → Steps p.tables e below (T.setTop g) target := by
  have F0 := F
  obtain ⟨cl, A, r1, r2, r3, H⟩ := F
  obtain ⟨T', h', X', e', W', st'⟩ := stR X hx hZ eT A (hi.not_out r2) hty hsto hg hs hd
  exact ⟨T', h', X', e', W', F0.set W' hi, st'⟩
theorem AF.sto {C : String} {y : Addr} (F : AF Z h a k ty n f) (O : Ovr Z k C) (I : Ins Z h y C true) : Sto Z h a (.ref y) := by
  obtain ⟨cl, A, r1, -⟩ := F
  exact Sto.ofV A r1 O I
end Arrays
end Jvm.OwnKit
namespace Jvm.Pilot.@@N@@
open Jvm Jvm.ClassFile Sem Op Lib Jvm.Free Jvm.Stand Jvm.LawKit Jvm.RoadKit Jvm.OwnKit Bundle Jvm.Pilot.@@N@@.Jvm.D
theorem own_root {Z : State} {a0 : Array Value} {O K : String} {n : Nat} (w : (Jvm.Cond.noSuperclass O).before a0 Z = true) (wk : (Jvm.Cond.instantiable K n).before a0 Z = true) (hn : O ≠ K) : NS Z O K := by
  obtain ⟨c, k, h1, h2, h3, -, -⟩ := Cond.noSuperclass_spec w
  obtain ⟨t, kt, g1, -⟩ := Cond.instantiable_spec wk
  have ne := ids_ne h1 g1 hn
  refine ⟨c, t, h1, g1, fun fuel => ?_⟩
  cases fuel with
  | zero => rfl
  | succ f => simp [Vm.isSubclassAux, ne, h2, h3]
theorem own_no {Z : State} {a0 : Array Value} {C S K : String} {n : Nat} (w : (Jvm.Cond.superclass C S).before a0 Z = true) (wk : (Jvm.Cond.instantiable K n).before a0 Z = true) (n : NS Z C K) (hn : C ≠ K) : ∃ c t, Z.vm.findClass C = some c ∧ Z.vm.findClass K = some t ∧ Z.vm.assignable c t = false := by
  obtain ⟨c, t, h0, g0, n3⟩ := n
  obtain ⟨p, k, kp, h1, h2, h3, h4, h5, -, h7⟩ := Cond.superclass_spec h0 w
  obtain ⟨t', kt, q1, q2, q3, q4, -⟩ := Cond.instantiable_spec wk
  cases g0.symm.trans q1
  have q5 : kt.isInterface = false := by
    cases e : kt.isInterface with
    | false => rfl
    | true => simp [e] at q4
  have ne := ids_ne h0 g0 hn
  refine ⟨c, t, h0, g0, ?_⟩
  show Z.vm.assignableAux (255 + 1) c t = false
  simp [Vm.assignableAux, ne, h2, q2, h5, q3, q5, Vm.isSubclass, n3]
theorem own_bxs {Z : State} {a : Addr} {c : Cell} {K d : String} {z : Int32} {val : Int32 → Value} {n : Nat} (F : Bxs Z a c K d z val) (hz : z.toNatClampNeg = n) (hn : n < 2 ^ 31) : AF Z Z.heap a c.cls (.object K) n (fun i => (c.slots[i]?).getD .null) :=
  ⟨c, F.1, rfl, F.2.1.trans hz, hn, fun i hi => by
    have h : i < c.slots.size := by rw [F.2.1, hz]; exact hi
    simp [h]⟩
theorem own_ix (x : Int32) (h1 : ¬ x < (-128 : Int32)) (h2 : ¬ (127 : Int32) < x) : Ix (x + (128 : Int32)) (x + (128 : Int32)).toNatClampNeg 256 := by
  have e : (x + (128 : Int32)).toInt = x.toInt + 128 := by
    rw [Int32.lt_iff_toInt_lt] at h1 h2
    have a : (-128 : Int32).toInt = -128 := by decide
    have b : (127 : Int32).toInt = 127 := by decide
    have d : (128 : Int32).toInt = 128 := by decide
    rw [Int32.toInt_add, d]
    exact Int.bmod_eq_of_le (by omega) (by omega)
  rw [Int32.lt_iff_toInt_lt] at h1 h2
  have a : (-128 : Int32).toInt = -128 := by decide
  have b : (127 : Int32).toInt = 127 := by decide
  have d : (0 : Int32).toInt = 0 := by decide
  refine ⟨rfl, ?_, ?_⟩
  · rw [Int32.lt_iff_toInt_lt, e]; omega
  · show (x + (128 : Int32)).toInt.toNat < 256
    rw [e]; omega
theorem d2_0 : decode jdk_30_method_1_code 0 = .ok (.aload_n 0, 1) := by decide +kernel
theorem d2_1 : decode jdk_30_method_1_code 1 = .ok (.invokespecial 1, 3) := by decide +kernel
theorem d2_4 : decode jdk_30_method_1_code 4 = .ok (.return_, 1) := by decide +kernel
theorem pn0 : plainName "java/lang/Record" = true := by first | (simp [plainName, overriddenIn]; done) | decide +kernel
theorem ef_2 (m : MethodId) (a : Addr) : entryFrame m #[(.ref a)] 1 = mkF m 0 #[.val (.ref a)] [] := by first | (simp [entryFrame, mkF, argsToLocals, Value.category]; done) | rfl
def Q2 (Z : State) (a : Addr) (h0 : Heap) (n0 : Nat) (v : Option Value) (h : Heap) (L : List Loc) : Prop := v = none ∧ Fr n0 L ∧ h = h0
set_option maxRecDepth 65536 in
set_option maxHeartbeats 40000000 in
theorem rm2 (l : Launch) (Z : State) (a0 : Array Value) (hw : ∀ d ∈ tables_1, d.before a0 Z = true) (a : Addr) (h0 : Heap) (n0 : Nat) (Zs : n0 ≤ h0.size)  :
    Con l Z (⟨"java/lang/Record", "<init>", "()V"⟩ : MethodName) jdk_30_method_1_code 1 none ({ frames := 1, cells := 0, slots := 0, locals := 12 } : Room) #[(.ref a)] h0 (Q2 Z a h0 n0) := by
  refine Con.intro (plainFor_of_name pn0) (fun m => ef_2 m a) ?_
  intro p e s m below meth c s₁ hx hby hml0 hZ hown hnm hret hlk X0 e0
  have hml : c.maxLocals = 1 := hml0
  have N0 := Fr.nil n0
  have Kp : Keep h0 h0 [] := Keep.refl h0 _
  show Go _ _ _ _ _ _ _ (s₁.setTop (mkF m 0 #[.val (.ref a)] []))
  refine Go.of (fun _ q => XS.aloadN X0.here hx rfl (hb hby d2_0) rfl rfl q) ?_
  show Go _ _ _ _ _ _ _ (s₁.setTop (mkF m 1 #[.val (.ref a)] [(.ref a)]))
  obtain ⟨T1, X1, e1, st1⟩ := initO X0 hx hZ hown (hw _ (List.mem_of_getElem? (i := 11) rfl)) (hw _ (List.mem_of_getElem? (i := 12) rfl)) (hw _ (List.mem_of_getElem? (i := 13) rfl)) e0 (g := (mkF m 1 #[.val (.ref a)] [(.ref a)])) rfl (by rw [hml]; rfl) rfl (hb hby d2_1) (by decide) (W := 0) (by show 2 * 0 + _ ≤ _; exact Nat.le_of_eq rfl) (by decide)
  refine Go.of st1 ?_
  show Go _ _ _ _ _ _ _ (T1.setTop (mkF m 4 #[.val (.ref a)] []))
  refine Go.retV X1 hx hlk hret (hb hby d2_4) (by decide) (by decide) ?_
  rw [e1]
  exact ⟨rfl, N0, rfl⟩
theorem pd0 : parseMethodDescriptor "()V" = some ⟨[], none⟩ := by decide +kernel
theorem d1_0 : decode prog_136_method_1_code 0 = .ok (.aload_n 0, 1) := by decide +kernel
theorem d1_1 : decode prog_136_method_1_code 1 = .ok (.invokespecial 1, 3) := by decide +kernel
theorem d1_4 : decode prog_136_method_1_code 4 = .ok (.aload_n 0, 1) := by decide +kernel
theorem d1_5 : decode prog_136_method_1_code 5 = .ok (.iload_n 1, 1) := by decide +kernel
theorem d1_6 : decode prog_136_method_1_code 6 = .ok (.putfield 7, 3) := by decide +kernel
theorem d1_9 : decode prog_136_method_1_code 9 = .ok (.aload_n 0, 1) := by decide +kernel
theorem d1_10 : decode prog_136_method_1_code 10 = .ok (.iload_n 2, 1) := by decide +kernel
theorem d1_11 : decode prog_136_method_1_code 11 = .ok (.putfield 13, 3) := by decide +kernel
theorem d1_14 : decode prog_136_method_1_code 14 = .ok (.return_, 1) := by decide +kernel
theorem pn1 : plainName "com/example/quillon/quillon/roost/Position" = true := by first | (simp [plainName, overriddenIn]; done) | decide +kernel
theorem ef_1 (m : MethodId) (a : Addr) (x1 : Int32) (x2 : Int32) : entryFrame m #[(.ref a), (.int x1), (.int x2)] 3 = mkF m 0 #[.val (.ref a), .val (.int x1), .val (.int x2)] [] := by first | (simp [entryFrame, mkF, argsToLocals, Value.category]; done) | rfl
def Q1 (Z : State) (a : Addr) (x1 : Int32) (x2 : Int32) (u1 : Int32) (u2 : Int32) (h0 : Heap) (n0 : Nat) (v : Option Value) (h : Heap) (L : List Loc) : Prop := v = none ∧ Fr n0 L ∧ Keep h0 h [a] ∧ Exa Z h a "com/example/quillon/quillon/roost/Position" ∧ Fld Z h a "com/example/quillon/quillon/roost/Position" "line" "I" (.int x1) ∧ Fld Z h a "com/example/quillon/quillon/roost/Position" "column" "I" (.int x2)
set_option maxRecDepth 65536 in
set_option maxHeartbeats 40000000 in
theorem rm1 (l : Launch) (Z : State) (a0 : Array Value) (hw : ∀ d ∈ tables_1, d.before a0 Z = true) (a : Addr) (x1 : Int32) (x2 : Int32) (u1 : Int32) (u2 : Int32) (h0 : Heap) (n0 : Nat) (Zs : n0 ≤ h0.size) (E_a : Exa Z h0 a "com/example/quillon/quillon/roost/Position") (F_a_line : Fld Z h0 a "com/example/quillon/quillon/roost/Position" "line" "I" (.int u1)) (F_a_column : Fld Z h0 a "com/example/quillon/quillon/roost/Position" "column" "I" (.int u2)) (g_a : n0 ≤ a) :
    Con l Z (⟨"com/example/quillon/quillon/roost/Position", "<init>", "(II)V"⟩ : MethodName) prog_136_method_1_code 3 none ({ frames := 2, cells := 0, slots := 0, locals := 24 } : Room) #[(.ref a), (.int x1), (.int x2)] h0 (Q1 Z a x1 x2 u1 u2 h0 n0) := by
  refine Con.intro (plainFor_of_name pn1) (fun m => ef_1 m a x1 x2) ?_
  intro p e s m below meth c s₁ hx hby hml0 hZ hown hnm hret hlk X0 e0
  have hml : c.maxLocals = 3 := hml0
  have N0 := Fr.nil n0
  have Kp : Keep h0 h0 [a] := Keep.refl h0 _
  show Go _ _ _ _ _ _ _ (s₁.setTop (mkF m 0 #[.val (.ref a), .val (.int x1), .val (.int x2)] []))
  refine Go.of (fun _ q => XS.aloadN X0.here hx rfl (hb hby d1_0) rfl rfl q) ?_
  show Go _ _ _ _ _ _ _ (s₁.setTop (mkF m 1 #[.val (.ref a), .val (.int x1), .val (.int x2)] [(.ref a)]))
  refine Go.special X0 hx hZ (y := (⟨"java/lang/Record", "<init>", "()V"⟩ : MethodName)) (a := a) (argsL := []) rfl hown (hw _ (List.mem_of_getElem? (i := 6) rfl)) (hw _ (List.mem_of_getElem? (i := 7) rfl)) (hw _ (List.mem_of_getElem? (i := 9) rfl)) (hw _ (List.mem_of_getElem? (i := 10) rfl)) (by decide) 0 e0 (rm2 l Z a0 hw a h0 n0 Zs ) (by decide) (by decide) (by decide) (by decide) (g := (mkF m 1 #[.val (.ref a), .val (.int x1), .val (.int x2)] [(.ref a)])) rfl (by rw [hml]; rfl) (rest := []) (lenOf pd0 rfl) rfl (by show 2 * 0 + _ ≤ _; exact Nat.le_of_eq rfl) (hb hby d1_1) ?_
  intro T1 v1 L1 X1 q1
  obtain ⟨rfl, Nq1, e1⟩ := q1
  have N1 := Fr.app N0 Nq1
  show Go _ _ _ _ _ _ _ (T1.setTop (mkF m 4 #[.val (.ref a), .val (.int x1), .val (.int x2)] []))
  refine Go.of (fun _ q => XS.aloadN X1.here hx rfl (hb hby d1_4) rfl rfl q) ?_
  show Go _ _ _ _ _ _ _ (T1.setTop (mkF m 5 #[.val (.ref a), .val (.int x1), .val (.int x2)] [(.ref a)]))
  refine Go.of (fun _ q => XS.iloadN X1.here hx rfl (hb hby d1_5) rfl q) ?_
  show Go _ _ _ _ _ _ _ (T1.setTop (mkF m 6 #[.val (.ref a), .val (.int x1), .val (.int x2)] [(.int x1), (.ref a)]))
  obtain ⟨T2, h2, X2, e2, W2, st2⟩ := putF X1 hx hZ hown (host := "") (Or.inl (hw _ (List.mem_of_getElem? (i := 14) rfl))) Via.refl e1 F_a_line E_a (Or.inr ⟨(hw _ (List.mem_of_getElem? (i := 15) rfl)), rfl, hnm⟩) (hw _ (List.mem_of_getElem? (i := 1) rfl)) (ty := .int) (by decide) rfl rfl (g := (mkF m 6 #[.val (.ref a), .val (.int x1), .val (.int x2)] [(.int x1), (.ref a)])) rfl rfl (hb hby d1_6)
  refine Go.of st2 ?_
  have Zs := Nat.le_trans Zs (Nat.le_of_eq W2.size.symm)
  have Kp := Kp.wr W2 (Or.inl (List.mem_of_getElem? (i := 0) rfl))
  have E_a := E_a.wr W2
  have F_a_line := F_a_line.same W2
  have F_a_column := F_a_column.other W2 (Or.inr (slot_ne (Or.inr (hw _ (List.mem_of_getElem? (i := 17) rfl))) (Or.inr (hw _ (List.mem_of_getElem? (i := 15) rfl))) (by decide) (t := .int) (t' := .int) (by decide) (by decide)))
  have N2 := Fr.snoc X2 N1 g_a
  show Go _ _ _ _ _ _ _ (T2.setTop (mkF m 9 #[.val (.ref a), .val (.int x1), .val (.int x2)] []))
  refine Go.of (fun _ q => XS.aloadN X2.here hx rfl (hb hby d1_9) rfl rfl q) ?_
  show Go _ _ _ _ _ _ _ (T2.setTop (mkF m 10 #[.val (.ref a), .val (.int x1), .val (.int x2)] [(.ref a)]))
  refine Go.of (fun _ q => XS.iloadN X2.here hx rfl (hb hby d1_10) rfl q) ?_
  show Go _ _ _ _ _ _ _ (T2.setTop (mkF m 11 #[.val (.ref a), .val (.int x1), .val (.int x2)] [(.int x2), (.ref a)]))
  obtain ⟨T3, h3, X3, e3, W3, st3⟩ := putF X2 hx hZ hown (host := "") (Or.inl (hw _ (List.mem_of_getElem? (i := 16) rfl))) Via.refl e2 F_a_column E_a (Or.inr ⟨(hw _ (List.mem_of_getElem? (i := 17) rfl)), rfl, hnm⟩) (hw _ (List.mem_of_getElem? (i := 1) rfl)) (ty := .int) (by decide) rfl rfl (g := (mkF m 11 #[.val (.ref a), .val (.int x1), .val (.int x2)] [(.int x2), (.ref a)])) rfl rfl (hb hby d1_11)
  refine Go.of st3 ?_
  have Zs := Nat.le_trans Zs (Nat.le_of_eq W3.size.symm)
  have Kp := Kp.wr W3 (Or.inl (List.mem_of_getElem? (i := 0) rfl))
  have E_a := E_a.wr W3
  have F_a_line := F_a_line.other W3 (Or.inr (slot_ne (Or.inr (hw _ (List.mem_of_getElem? (i := 15) rfl))) (Or.inr (hw _ (List.mem_of_getElem? (i := 17) rfl))) (by decide) (t := .int) (t' := .int) (by decide) (by decide)))
  have F_a_column := F_a_column.same W3
  have N3 := Fr.snoc X3 N2 g_a
  show Go _ _ _ _ _ _ _ (T3.setTop (mkF m 14 #[.val (.ref a), .val (.int x1), .val (.int x2)] []))
  refine Go.retV X3 hx hlk hret (hb hby d1_14) (by decide) (by decide) ?_
  rw [e3]
  exact ⟨rfl, N3, Kp, E_a, F_a_line, F_a_column⟩
theorem d4_0 : decode prog_136_method_2_code 0 = .ok (.aload_n 1, 1) := by decide +kernel
theorem d4_1 : decode prog_136_method_2_code 1 = .ok (.instanceof 8, 3) := by decide +kernel
theorem d4_4 : decode prog_136_method_2_code 4 = .ok (.ifCond .eq 34, 3) := by decide +kernel
theorem d4_7 : decode prog_136_method_2_code 7 = .ok (.aload_n 1, 1) := by decide +kernel
theorem d4_8 : decode prog_136_method_2_code 8 = .ok (.checkcast 8, 3) := by decide +kernel
theorem d4_11 : decode prog_136_method_2_code 11 = .ok (.astore_n 2, 1) := by decide +kernel
theorem d4_12 : decode prog_136_method_2_code 12 = .ok (.aload_n 2, 1) := by decide +kernel
theorem d4_13 : decode prog_136_method_2_code 13 = .ok (.getfield 7, 3) := by decide +kernel
theorem d4_16 : decode prog_136_method_2_code 16 = .ok (.aload_n 0, 1) := by decide +kernel
theorem d4_17 : decode prog_136_method_2_code 17 = .ok (.getfield 7, 3) := by decide +kernel
theorem d4_20 : decode prog_136_method_2_code 20 = .ok (.if_icmp .ne 18, 3) := by decide +kernel
theorem d4_23 : decode prog_136_method_2_code 23 = .ok (.aload_n 2, 1) := by decide +kernel
theorem d4_24 : decode prog_136_method_2_code 24 = .ok (.getfield 13, 3) := by decide +kernel
theorem d4_27 : decode prog_136_method_2_code 27 = .ok (.aload_n 0, 1) := by decide +kernel
theorem d4_28 : decode prog_136_method_2_code 28 = .ok (.getfield 13, 3) := by decide +kernel
theorem d4_31 : decode prog_136_method_2_code 31 = .ok (.if_icmp .ne 7, 3) := by decide +kernel
theorem d4_34 : decode prog_136_method_2_code 34 = .ok (.iconst 1, 1) := by decide +kernel
theorem d4_35 : decode prog_136_method_2_code 35 = .ok (.goto 4, 3) := by decide +kernel
theorem d4_38 : decode prog_136_method_2_code 38 = .ok (.iconst 0, 1) := by decide +kernel
theorem d4_39 : decode prog_136_method_2_code 39 = .ok (.ireturn, 1) := by decide +kernel
theorem ef_4_P (m : MethodId) (a : Addr) (b : Addr) : entryFrame m #[(.ref a), (.ref b)] 3 = mkF m 0 #[.val (.ref a), .val (.ref b), .unset] [] := by first | (simp [entryFrame, mkF, argsToLocals, Value.category]; done) | rfl
def Q4_P (Z : State) (a : Addr) (b : Addr) (u1 : Int32) (u2 : Int32) (w1 : Int32) (w2 : Int32) (h0 : Heap) (n0 : Nat) (v : Option Value) (h : Heap) (L : List Loc) : Prop := v = some (.int (if w1 = u1 then (if w2 = u2 then (1 : Int32) else (0 : Int32)) else (0 : Int32))) ∧ Fr n0 L ∧ h = h0
set_option maxRecDepth 65536 in
set_option maxHeartbeats 40000000 in
theorem rm4_P (l : Launch) (Z : State) (a0 : Array Value) (hw : ∀ d ∈ tables_1, d.before a0 Z = true) (a : Addr) (b : Addr) (u1 : Int32) (u2 : Int32) (w1 : Int32) (w2 : Int32) (h0 : Heap) (n0 : Nat) (Zs : n0 ≤ h0.size) (F_a_line : Fld Z h0 a "com/example/quillon/quillon/roost/Position" "line" "I" (.int u1)) (F_a_column : Fld Z h0 a "com/example/quillon/quillon/roost/Position" "column" "I" (.int u2)) (E_b : Exa Z h0 b "com/example/quillon/quillon/roost/Position") (F_b_line : Fld Z h0 b "com/example/quillon/quillon/roost/Position" "line" "I" (.int w1)) (F_b_column : Fld Z h0 b "com/example/quillon/quillon/roost/Position" "column" "I" (.int w2)) :
    Con l Z (⟨"com/example/quillon/quillon/roost/Position", "equals", "(Ljava/lang/Object;)Z"⟩ : MethodName) prog_136_method_2_code 3 (some .boolean) ({ frames := 0, cells := 0, slots := 0, locals := 0 } : Room) #[(.ref a), (.ref b)] h0 (Q4_P Z a b u1 u2 w1 w2 h0 n0) := by
  refine Con.intro (plainFor_of_name pn1) (fun m => ef_4_P m a b) ?_
  intro p e s m below meth c s₁ hx hby hml0 hZ hown hnm hret hlk X0 e0
  have hml : c.maxLocals = 3 := hml0
  have N0 := Fr.nil n0
  have Kp : Keep h0 h0 [] := Keep.refl h0 _
  show Go _ _ _ _ _ _ _ (s₁.setTop (mkF m 0 #[.val (.ref a), .val (.ref b), .unset] []))
  refine Go.of (fun _ q => XS.aloadN X0.here hx rfl (hb hby d4_0) rfl rfl q) ?_
  show Go _ _ _ _ _ _ _ (s₁.setTop (mkF m 1 #[.val (.ref a), .val (.ref b), .unset] [(.ref b)]))
  obtain ⟨T1, X1, e1, st1⟩ := instY X0 hx hZ hown (hw _ (List.mem_of_getElem? (i := 23) rfl)) e0 (Ins.self E_b) (g := (mkF m 1 #[.val (.ref a), .val (.ref b), .unset] [(.ref b)])) rfl rfl (hb hby d4_1)
  refine Go.of st1 ?_
  show Go _ _ _ _ _ _ _ (T1.setTop (mkF m 4 #[.val (.ref a), .val (.ref b), .unset] [(.int (1 : Int32))]))
  refine Go.of (fun _ q => XS.ifNo X1.here hx rfl (hb hby d4_4) rfl ((if0 _ _).trans (feq (by decide)).1) q) ?_
  show Go _ _ _ _ _ _ _ (T1.setTop (mkF m 7 #[.val (.ref a), .val (.ref b), .unset] []))
  refine Go.of (fun _ q => XS.aloadN X1.here hx rfl (hb hby d4_7) rfl rfl q) ?_
  show Go _ _ _ _ _ _ _ (T1.setTop (mkF m 8 #[.val (.ref a), .val (.ref b), .unset] [(.ref b)]))
  obtain ⟨T2, X2, e2, st2⟩ := castY X1 hx hZ hown (hw _ (List.mem_of_getElem? (i := 23) rfl)) e1 (Ins.self E_b) (g := (mkF m 8 #[.val (.ref a), .val (.ref b), .unset] [(.ref b)])) rfl rfl (hb hby d4_8)
  refine Go.of st2 ?_
  show Go _ _ _ _ _ _ _ (T2.setTop (mkF m 11 #[.val (.ref a), .val (.ref b), .unset] [(.ref b)]))
  refine Go.of (fun _ q => XS.astoreN X2.here hx rfl (hb hby d4_11) rfl rfl (l' := #[.val (.ref a), .val (.ref b), .val (.ref b)]) rfl q) ?_
  show Go _ _ _ _ _ _ _ (T2.setTop (mkF m 12 #[.val (.ref a), .val (.ref b), .val (.ref b)] []))
  refine Go.of (fun _ q => XS.aloadN X2.here hx rfl (hb hby d4_12) rfl rfl q) ?_
  show Go _ _ _ _ _ _ _ (T2.setTop (mkF m 13 #[.val (.ref a), .val (.ref b), .val (.ref b)] [(.ref b)]))
  obtain ⟨T3, X3, e3, st3⟩ := getF X2 hx hZ hown (host := "") (Or.inl (hw _ (List.mem_of_getElem? (i := 14) rfl))) Via.refl e2 F_b_line (g := (mkF m 13 #[.val (.ref a), .val (.ref b), .val (.ref b)] [(.ref b)])) rfl rfl (hb hby d4_13)
  refine Go.of st3 ?_
  show Go _ _ _ _ _ _ _ (T3.setTop (mkF m 16 #[.val (.ref a), .val (.ref b), .val (.ref b)] [(.int w1)]))
  refine Go.of (fun _ q => XS.aloadN X3.here hx rfl (hb hby d4_16) rfl rfl q) ?_
  show Go _ _ _ _ _ _ _ (T3.setTop (mkF m 17 #[.val (.ref a), .val (.ref b), .val (.ref b)] [(.ref a), (.int w1)]))
  obtain ⟨T4, X4, e4, st4⟩ := getF X3 hx hZ hown (host := "") (Or.inl (hw _ (List.mem_of_getElem? (i := 14) rfl))) Via.refl e3 F_a_line (g := (mkF m 17 #[.val (.ref a), .val (.ref b), .val (.ref b)] [(.ref a), (.int w1)])) rfl rfl (hb hby d4_17)
  refine Go.of st4 ?_
  show Go _ _ _ _ _ _ _ (T4.setTop (mkF m 20 #[.val (.ref a), .val (.ref b), .val (.ref b)] [(.int u1), (.int w1)]))
  by_cases c20 : w1 = u1
  · refine Go.of (fun _ q => XS.icmpNo X4.here hx rfl (hb hby d4_20) rfl (teq c20).2 q) ?_
    show Go _ _ _ _ _ _ _ (T4.setTop (mkF m 23 #[.val (.ref a), .val (.ref b), .val (.ref b)] []))
    refine Go.of (fun _ q => XS.aloadN X4.here hx rfl (hb hby d4_23) rfl rfl q) ?_
    show Go _ _ _ _ _ _ _ (T4.setTop (mkF m 24 #[.val (.ref a), .val (.ref b), .val (.ref b)] [(.ref b)]))
    obtain ⟨T5, X5, e5, st5⟩ := getF X4 hx hZ hown (host := "") (Or.inl (hw _ (List.mem_of_getElem? (i := 16) rfl))) Via.refl e4 F_b_column (g := (mkF m 24 #[.val (.ref a), .val (.ref b), .val (.ref b)] [(.ref b)])) rfl rfl (hb hby d4_24)
    refine Go.of st5 ?_
    show Go _ _ _ _ _ _ _ (T5.setTop (mkF m 27 #[.val (.ref a), .val (.ref b), .val (.ref b)] [(.int w2)]))
    refine Go.of (fun _ q => XS.aloadN X5.here hx rfl (hb hby d4_27) rfl rfl q) ?_
    show Go _ _ _ _ _ _ _ (T5.setTop (mkF m 28 #[.val (.ref a), .val (.ref b), .val (.ref b)] [(.ref a), (.int w2)]))
    obtain ⟨T6, X6, e6, st6⟩ := getF X5 hx hZ hown (host := "") (Or.inl (hw _ (List.mem_of_getElem? (i := 16) rfl))) Via.refl e5 F_a_column (g := (mkF m 28 #[.val (.ref a), .val (.ref b), .val (.ref b)] [(.ref a), (.int w2)])) rfl rfl (hb hby d4_28)
    refine Go.of st6 ?_
    show Go _ _ _ _ _ _ _ (T6.setTop (mkF m 31 #[.val (.ref a), .val (.ref b), .val (.ref b)] [(.int u2), (.int w2)]))
    by_cases c31 : w2 = u2
    · refine Go.of (fun _ q => XS.icmpNo X6.here hx rfl (hb hby d4_31) rfl (teq c31).2 q) ?_
      show Go _ _ _ _ _ _ _ (T6.setTop (mkF m 34 #[.val (.ref a), .val (.ref b), .val (.ref b)] []))
      refine Go.of (fun _ q => XS.iconst X6.here hx rfl (hb hby d4_34) q) ?_
      show Go _ _ _ _ _ _ _ (T6.setTop (mkF m 35 #[.val (.ref a), .val (.ref b), .val (.ref b)] [(.int (1 : Int32))]))
      refine Go.of (fun _ q => XS.goto X6.here hx rfl (pc0 := 35) (pc' := 39) rfl (hb hby d4_35) (by decide) (by decide) q) ?_
      show Go _ _ _ _ _ _ _ (T6.setTop (mkF m 39 #[.val (.ref a), .val (.ref b), .val (.ref b)] [(.int (1 : Int32))]))
      refine Go.retN X6 hx hlk (t := .boolean) hret (by simp) (hb hby d4_39) rfl (by decide) (by decide) ?_
      rw [e6]
      exact ⟨(by rw [if_pos c20, if_pos c31]), N0, rfl⟩
    · refine Go.of (fun _ q => XS.icmpYes X6.here hx rfl (pc0 := 31) (pc' := 38) rfl (hb hby d4_31) rfl (feq c31).2 (by decide) (by decide) q) ?_
      show Go _ _ _ _ _ _ _ (T6.setTop (mkF m 38 #[.val (.ref a), .val (.ref b), .val (.ref b)] []))
      refine Go.of (fun _ q => XS.iconst X6.here hx rfl (hb hby d4_38) q) ?_
      show Go _ _ _ _ _ _ _ (T6.setTop (mkF m 39 #[.val (.ref a), .val (.ref b), .val (.ref b)] [(.int (0 : Int32))]))
      refine Go.retN X6 hx hlk (t := .boolean) hret (by simp) (hb hby d4_39) rfl (by decide) (by decide) ?_
      rw [e6]
      exact ⟨(by rw [if_pos c20, if_neg c31]), N0, rfl⟩
  · refine Go.of (fun _ q => XS.icmpYes X4.here hx rfl (pc0 := 20) (pc' := 38) rfl (hb hby d4_20) rfl (feq c20).2 (by decide) (by decide) q) ?_
    show Go _ _ _ _ _ _ _ (T4.setTop (mkF m 38 #[.val (.ref a), .val (.ref b), .val (.ref b)] []))
    refine Go.of (fun _ q => XS.iconst X4.here hx rfl (hb hby d4_38) q) ?_
    show Go _ _ _ _ _ _ _ (T4.setTop (mkF m 39 #[.val (.ref a), .val (.ref b), .val (.ref b)] [(.int (0 : Int32))]))
    refine Go.retN X4 hx hlk (t := .boolean) hret (by simp) (hb hby d4_39) rfl (by decide) (by decide) ?_
    rw [e4]
    exact ⟨(by rw [if_neg c20]), N0, rfl⟩
theorem ef_4_N (m : MethodId) (a : Addr) : entryFrame m #[(.ref a), .null] 3 = mkF m 0 #[.val (.ref a), .val .null, .unset] [] := by first | (simp [entryFrame, mkF, argsToLocals, Value.category]; done) | rfl
def Q4_N (Z : State) (a : Addr) (h0 : Heap) (n0 : Nat) (v : Option Value) (h : Heap) (L : List Loc) : Prop := v = some (.int (0 : Int32)) ∧ Fr n0 L ∧ h = h0
set_option maxRecDepth 65536 in
set_option maxHeartbeats 40000000 in
theorem rm4_N (l : Launch) (Z : State) (a0 : Array Value) (hw : ∀ d ∈ tables_1, d.before a0 Z = true) (a : Addr) (h0 : Heap) (n0 : Nat) (Zs : n0 ≤ h0.size)  :
    Con l Z (⟨"com/example/quillon/quillon/roost/Position", "equals", "(Ljava/lang/Object;)Z"⟩ : MethodName) prog_136_method_2_code 3 (some .boolean) ({ frames := 0, cells := 0, slots := 0, locals := 0 } : Room) #[(.ref a), .null] h0 (Q4_N Z a h0 n0) := by
  refine Con.intro (plainFor_of_name pn1) (fun m => ef_4_N m a) ?_
  intro p e s m below meth c s₁ hx hby hml0 hZ hown hnm hret hlk X0 e0
  have hml : c.maxLocals = 3 := hml0
  have N0 := Fr.nil n0
  have Kp : Keep h0 h0 [] := Keep.refl h0 _
  show Go _ _ _ _ _ _ _ (s₁.setTop (mkF m 0 #[.val (.ref a), .val .null, .unset] []))
  refine Go.of (fun _ q => XS.aloadN X0.here hx rfl (hb hby d4_0) rfl rfl q) ?_
  show Go _ _ _ _ _ _ _ (s₁.setTop (mkF m 1 #[.val (.ref a), .val .null, .unset] [.null]))
  refine Go.of (fun _ q => X0.instanceofNull hx (g := (mkF m 1 #[.val (.ref a), .val .null, .unset] [.null])) rfl rfl (hb hby d4_1) _ q) ?_
  show Go _ _ _ _ _ _ _ (s₁.setTop (mkF m 4 #[.val (.ref a), .val .null, .unset] [(.int (0 : Int32))]))
  refine Go.of (fun _ q => XS.ifYes X0.here hx rfl (pc0 := 4) (pc' := 38) rfl (hb hby d4_4) rfl ((if0 _ _).trans (teq rfl).1) (by decide) (by decide) q) ?_
  show Go _ _ _ _ _ _ _ (s₁.setTop (mkF m 38 #[.val (.ref a), .val .null, .unset] []))
  refine Go.of (fun _ q => XS.iconst X0.here hx rfl (hb hby d4_38) q) ?_
  show Go _ _ _ _ _ _ _ (s₁.setTop (mkF m 39 #[.val (.ref a), .val .null, .unset] [(.int (0 : Int32))]))
  refine Go.retN X0 hx hlk (t := .boolean) hret (by simp) (hb hby d4_39) rfl (by decide) (by decide) ?_
  rw [e0]
  exact ⟨rfl, N0, rfl⟩
theorem ef_4_I (m : MethodId) (a : Addr) (b : Addr) : entryFrame m #[(.ref a), (.ref b)] 3 = mkF m 0 #[.val (.ref a), .val (.ref b), .unset] [] := by first | (simp [entryFrame, mkF, argsToLocals, Value.category]; done) | rfl
def Q4_I (Z : State) (a : Addr) (b : Addr) (h0 : Heap) (n0 : Nat) (v : Option Value) (h : Heap) (L : List Loc) : Prop := v = some (.int (0 : Int32)) ∧ Fr n0 L ∧ h = h0
set_option maxRecDepth 65536 in
set_option maxHeartbeats 40000000 in
theorem rm4_I (l : Launch) (Z : State) (a0 : Array Value) (hw : ∀ d ∈ tables_1, d.before a0 Z = true) (a : Addr) (b : Addr) (h0 : Heap) (n0 : Nat) (Zs : n0 ≤ h0.size) (E_b : Exa Z h0 b "java/lang/Integer") :
    Con l Z (⟨"com/example/quillon/quillon/roost/Position", "equals", "(Ljava/lang/Object;)Z"⟩ : MethodName) prog_136_method_2_code 3 (some .boolean) ({ frames := 0, cells := 0, slots := 0, locals := 0 } : Room) #[(.ref a), (.ref b)] h0 (Q4_I Z a b h0 n0) := by
  refine Con.intro (plainFor_of_name pn1) (fun m => ef_4_I m a b) ?_
  intro p e s m below meth c s₁ hx hby hml0 hZ hown hnm hret hlk X0 e0
  have hml : c.maxLocals = 3 := hml0
  have N0 := Fr.nil n0
  have Kp : Keep h0 h0 [] := Keep.refl h0 _
  show Go _ _ _ _ _ _ _ (s₁.setTop (mkF m 0 #[.val (.ref a), .val (.ref b), .unset] []))
  refine Go.of (fun _ q => XS.aloadN X0.here hx rfl (hb hby d4_0) rfl rfl q) ?_
  show Go _ _ _ _ _ _ _ (s₁.setTop (mkF m 1 #[.val (.ref a), .val (.ref b), .unset] [(.ref b)]))
  obtain ⟨T1, X1, e1, st1⟩ := instNo X0 hx hZ hown (hw _ (List.mem_of_getElem? (i := 23) rfl)) e0 E_b (own_no (hw _ (List.mem_of_getElem? (i := 32) rfl)) (hw _ (List.mem_of_getElem? (i := 1) rfl)) (NS.step (hw _ (List.mem_of_getElem? (i := 32) rfl)) (NS.step (hw _ (List.mem_of_getElem? (i := 33) rfl)) (own_root (hw _ (List.mem_of_getElem? (i := 34) rfl)) (hw _ (List.mem_of_getElem? (i := 1) rfl)) (by decide)) (by decide)) (by decide)) (by decide)) (g := (mkF m 1 #[.val (.ref a), .val (.ref b), .unset] [(.ref b)])) rfl rfl (hb hby d4_1)
  refine Go.of st1 ?_
  show Go _ _ _ _ _ _ _ (T1.setTop (mkF m 4 #[.val (.ref a), .val (.ref b), .unset] [(.int (0 : Int32))]))
  refine Go.of (fun _ q => XS.ifYes X1.here hx rfl (pc0 := 4) (pc' := 38) rfl (hb hby d4_4) rfl ((if0 _ _).trans (teq rfl).1) (by decide) (by decide) q) ?_
  show Go _ _ _ _ _ _ _ (T1.setTop (mkF m 38 #[.val (.ref a), .val (.ref b), .unset] []))
  refine Go.of (fun _ q => XS.iconst X1.here hx rfl (hb hby d4_38) q) ?_
  show Go _ _ _ _ _ _ _ (T1.setTop (mkF m 39 #[.val (.ref a), .val (.ref b), .unset] [(.int (0 : Int32))]))
  refine Go.retN X1 hx hlk (t := .boolean) hret (by simp) (hb hby d4_39) rfl (by decide) (by decide) ?_
  rw [e1]
  exact ⟨rfl, N0, rfl⟩
theorem d7_0 : decode jdk_18_method_1_code 0 = .ok (.aload_n 0, 1) := by decide +kernel
theorem d7_1 : decode jdk_18_method_1_code 1 = .ok (.invokespecial 1, 3) := by decide +kernel
theorem d7_4 : decode jdk_18_method_1_code 4 = .ok (.return_, 1) := by decide +kernel
theorem pn2 : plainName "java/lang/Number" = true := by first | (simp [plainName, overriddenIn]; done) | decide +kernel
theorem ef_7 (m : MethodId) (a : Addr) : entryFrame m #[(.ref a)] 1 = mkF m 0 #[.val (.ref a)] [] := by first | (simp [entryFrame, mkF, argsToLocals, Value.category]; done) | rfl
def Q7 (Z : State) (a : Addr) (h0 : Heap) (n0 : Nat) (v : Option Value) (h : Heap) (L : List Loc) : Prop := v = none ∧ Fr n0 L ∧ h = h0
set_option maxRecDepth 65536 in
set_option maxHeartbeats 40000000 in
theorem rm7 (l : Launch) (Z : State) (a0 : Array Value) (hw : ∀ d ∈ tables_1, d.before a0 Z = true) (a : Addr) (h0 : Heap) (n0 : Nat) (Zs : n0 ≤ h0.size)  :
    Con l Z (⟨"java/lang/Number", "<init>", "()V"⟩ : MethodName) jdk_18_method_1_code 1 none ({ frames := 1, cells := 0, slots := 0, locals := 12 } : Room) #[(.ref a)] h0 (Q7 Z a h0 n0) := by
  refine Con.intro (plainFor_of_name pn2) (fun m => ef_7 m a) ?_
  intro p e s m below meth c s₁ hx hby hml0 hZ hown hnm hret hlk X0 e0
  have hml : c.maxLocals = 1 := hml0
  have N0 := Fr.nil n0
  have Kp : Keep h0 h0 [] := Keep.refl h0 _
  show Go _ _ _ _ _ _ _ (s₁.setTop (mkF m 0 #[.val (.ref a)] []))
  refine Go.of (fun _ q => XS.aloadN X0.here hx rfl (hb hby d7_0) rfl rfl q) ?_
  show Go _ _ _ _ _ _ _ (s₁.setTop (mkF m 1 #[.val (.ref a)] [(.ref a)]))
  obtain ⟨T1, X1, e1, st1⟩ := initO X0 hx hZ hown (hw _ (List.mem_of_getElem? (i := 47) rfl)) (hw _ (List.mem_of_getElem? (i := 12) rfl)) (hw _ (List.mem_of_getElem? (i := 13) rfl)) e0 (g := (mkF m 1 #[.val (.ref a)] [(.ref a)])) rfl (by rw [hml]; rfl) rfl (hb hby d7_1) (by decide) (W := 0) (by show 2 * 0 + _ ≤ _; exact Nat.le_of_eq rfl) (by decide)
  refine Go.of st1 ?_
  show Go _ _ _ _ _ _ _ (T1.setTop (mkF m 4 #[.val (.ref a)] []))
  refine Go.retV X1 hx hlk hret (hb hby d7_4) (by decide) (by decide) ?_
  rw [e1]
  exact ⟨rfl, N0, rfl⟩
theorem d6_0 : decode jdk_33_method_23_code 0 = .ok (.aload_n 0, 1) := by decide +kernel
theorem d6_1 : decode jdk_33_method_23_code 1 = .ok (.invokespecial 202, 3) := by decide +kernel
theorem d6_4 : decode jdk_33_method_23_code 4 = .ok (.aload_n 0, 1) := by decide +kernel
theorem d6_5 : decode jdk_33_method_23_code 5 = .ok (.iload_n 1, 1) := by decide +kernel
theorem d6_6 : decode jdk_33_method_23_code 6 = .ok (.putfield 205, 3) := by decide +kernel
theorem d6_9 : decode jdk_33_method_23_code 9 = .ok (.return_, 1) := by decide +kernel
theorem pn3 : plainName "java/lang/Integer" = true := by first | (simp [plainName, overriddenIn]; done) | decide +kernel
theorem ef_6 (m : MethodId) (a : Addr) (x1 : Int32) : entryFrame m #[(.ref a), (.int x1)] 2 = mkF m 0 #[.val (.ref a), .val (.int x1)] [] := by first | (simp [entryFrame, mkF, argsToLocals, Value.category]; done) | rfl
def Q6 (Z : State) (a : Addr) (x1 : Int32) (u1 : Int32) (h0 : Heap) (n0 : Nat) (v : Option Value) (h : Heap) (L : List Loc) : Prop := v = none ∧ Fr n0 L ∧ Keep h0 h [a] ∧ Exa Z h a "java/lang/Integer"
set_option maxRecDepth 65536 in
set_option maxHeartbeats 40000000 in
theorem rm6 (l : Launch) (Z : State) (a0 : Array Value) (hw : ∀ d ∈ tables_1, d.before a0 Z = true) (a : Addr) (x1 : Int32) (u1 : Int32) (h0 : Heap) (n0 : Nat) (Zs : n0 ≤ h0.size) (E_a : Exa Z h0 a "java/lang/Integer") (F_a_value : Fld Z h0 a "java/lang/Integer" "value" "I" (.int u1)) (g_a : n0 ≤ a) :
    Con l Z (⟨"java/lang/Integer", "<init>", "(I)V"⟩ : MethodName) jdk_33_method_23_code 2 none ({ frames := 2, cells := 0, slots := 0, locals := 24 } : Room) #[(.ref a), (.int x1)] h0 (Q6 Z a x1 u1 h0 n0) := by
  refine Con.intro (plainFor_of_name pn3) (fun m => ef_6 m a x1) ?_
  intro p e s m below meth c s₁ hx hby hml0 hZ hown hnm hret hlk X0 e0
  have hml : c.maxLocals = 2 := hml0
  have N0 := Fr.nil n0
  have Kp : Keep h0 h0 [a] := Keep.refl h0 _
  show Go _ _ _ _ _ _ _ (s₁.setTop (mkF m 0 #[.val (.ref a), .val (.int x1)] []))
  refine Go.of (fun _ q => XS.aloadN X0.here hx rfl (hb hby d6_0) rfl rfl q) ?_
  show Go _ _ _ _ _ _ _ (s₁.setTop (mkF m 1 #[.val (.ref a), .val (.int x1)] [(.ref a)]))
  refine Go.special X0 hx hZ (y := (⟨"java/lang/Number", "<init>", "()V"⟩ : MethodName)) (a := a) (argsL := []) rfl hown (hw _ (List.mem_of_getElem? (i := 41) rfl)) (hw _ (List.mem_of_getElem? (i := 42) rfl)) (hw _ (List.mem_of_getElem? (i := 45) rfl)) (hw _ (List.mem_of_getElem? (i := 46) rfl)) (by decide) 0 e0 (rm7 l Z a0 hw a h0 n0 Zs ) (by decide) (by decide) (by decide) (by decide) (g := (mkF m 1 #[.val (.ref a), .val (.int x1)] [(.ref a)])) rfl (by rw [hml]; rfl) (rest := []) (lenOf pd0 rfl) rfl (by show 2 * 0 + _ ≤ _; exact Nat.le_of_eq rfl) (hb hby d6_1) ?_
  intro T1 v1 L1 X1 q1
  obtain ⟨rfl, Nq1, e1⟩ := q1
  have N1 := Fr.app N0 Nq1
  show Go _ _ _ _ _ _ _ (T1.setTop (mkF m 4 #[.val (.ref a), .val (.int x1)] []))
  refine Go.of (fun _ q => XS.aloadN X1.here hx rfl (hb hby d6_4) rfl rfl q) ?_
  show Go _ _ _ _ _ _ _ (T1.setTop (mkF m 5 #[.val (.ref a), .val (.int x1)] [(.ref a)]))
  refine Go.of (fun _ q => XS.iloadN X1.here hx rfl (hb hby d6_5) rfl q) ?_
  show Go _ _ _ _ _ _ _ (T1.setTop (mkF m 6 #[.val (.ref a), .val (.int x1)] [(.int x1), (.ref a)]))
  obtain ⟨T2, h2, X2, e2, W2, st2⟩ := putF X1 hx hZ hown (host := "") (Or.inl (hw _ (List.mem_of_getElem? (i := 48) rfl))) Via.refl e1 F_a_value E_a (Or.inr ⟨(hw _ (List.mem_of_getElem? (i := 49) rfl)), rfl, hnm⟩) (hw _ (List.mem_of_getElem? (i := 36) rfl)) (ty := .int) (by decide) rfl rfl (g := (mkF m 6 #[.val (.ref a), .val (.int x1)] [(.int x1), (.ref a)])) rfl rfl (hb hby d6_6)
  refine Go.of st2 ?_
  have Zs := Nat.le_trans Zs (Nat.le_of_eq W2.size.symm)
  have Kp := Kp.wr W2 (Or.inl (List.mem_of_getElem? (i := 0) rfl))
  have E_a := E_a.wr W2
  have F_a_value := F_a_value.same W2
  have N2 := Fr.snoc X2 N1 g_a
  show Go _ _ _ _ _ _ _ (T2.setTop (mkF m 9 #[.val (.ref a), .val (.int x1)] []))
  refine Go.retV X2 hx hlk hret (hb hby d6_9) (by decide) (by decide) ?_
  rw [e2]
  exact ⟨rfl, N2, Kp, E_a⟩
theorem pd1 : parseMethodDescriptor "(I)V" = some ⟨[.int], none⟩ := by decide +kernel
theorem d5_0 : decode jdk_33_method_22_code 0 = .ok (.iload_n 0, 1) := by decide +kernel
theorem d5_1 : decode jdk_33_method_22_code 1 = .ok (.bipush (-128), 2) := by decide +kernel
theorem d5_3 : decode jdk_33_method_22_code 3 = .ok (.if_icmp .lt 20, 3) := by decide +kernel
theorem d5_6 : decode jdk_33_method_22_code 6 = .ok (.iload_n 0, 1) := by decide +kernel
theorem d5_7 : decode jdk_33_method_22_code 7 = .ok (.getstatic 191, 3) := by decide +kernel
theorem d5_10 : decode jdk_33_method_22_code 10 = .ok (.if_icmp .gt 13, 3) := by decide +kernel
theorem d5_13 : decode jdk_33_method_22_code 13 = .ok (.getstatic 195, 3) := by decide +kernel
theorem d5_16 : decode jdk_33_method_22_code 16 = .ok (.iload_n 0, 1) := by decide +kernel
theorem d5_17 : decode jdk_33_method_22_code 17 = .ok (.sipush 128, 3) := by decide +kernel
theorem d5_20 : decode jdk_33_method_22_code 20 = .ok (.iadd, 1) := by decide +kernel
theorem d5_21 : decode jdk_33_method_22_code 21 = .ok (.aaload, 1) := by decide +kernel
theorem d5_22 : decode jdk_33_method_22_code 22 = .ok (.areturn, 1) := by decide +kernel
theorem d5_23 : decode jdk_33_method_22_code 23 = .ok (.new 1, 3) := by decide +kernel
theorem d5_26 : decode jdk_33_method_22_code 26 = .ok (.dup, 1) := by decide +kernel
theorem d5_27 : decode jdk_33_method_22_code 27 = .ok (.iload_n 0, 1) := by decide +kernel
theorem d5_28 : decode jdk_33_method_22_code 28 = .ok (.invokespecial 199, 3) := by decide +kernel
theorem d5_31 : decode jdk_33_method_22_code 31 = .ok (.areturn, 1) := by decide +kernel
theorem ef_5 (m : MethodId) (x1 : Int32) : entryFrame m #[(.int x1)] 1 = mkF m 0 #[.val (.int x1)] [] := by first | (simp [entryFrame, mkF, argsToLocals, Value.category]; done) | rfl
def Q5 (Z : State) (x1 : Int32) (ca : Addr) (cc : Cell) (h0 : Heap) (n0 : Nat) (v : Option Value) (h : Heap) (L : List Loc) : Prop := ∃ b : Addr, v = some (.ref b) ∧ Fr n0 L ∧ Keep h0 h [] ∧ Exa Z h b "java/lang/Integer"
set_option maxRecDepth 65536 in
set_option maxHeartbeats 40000000 in
theorem rm5 (l : Launch) (Z : State) (a0 : Array Value) (hw : ∀ d ∈ tables_1, d.before a0 Z = true) (x1 : Int32) (ca : Addr) (cc : Cell) (h0 : Heap) (n0 : Nat) (Zs : n0 ≤ h0.size) (Od : Old Z n0 h0) (Shi : Sta Z Z.heap "java/lang/Integer$IntegerCache" "high" "I" (.int (127 : Int32))) (Sca : Sta Z Z.heap "java/lang/Integer$IntegerCache" "cache" "[Ljava/lang/Integer;" (.ref ca)) (Bx : Bxs Z ca cc "java/lang/Integer" "I" (256 : Int32) (fun j => .int (j - 128))) :
    Con l Z (⟨"java/lang/Integer", "valueOf", "(I)Ljava/lang/Integer;"⟩ : MethodName) jdk_33_method_22_code 1 (some (.object "java/lang/Integer")) ({ frames := 3, cells := 1, slots := 1, locals := 38 } : Room) #[(.int x1)] h0 (Q5 Z x1 ca cc h0 n0) := by
  refine Con.intro (plainFor_of_name pn3) (fun m => ef_5 m x1) ?_
  intro p e s m below meth c s₁ hx hby hml0 hZ hown hnm hret hlk X0 e0
  have hml : c.maxLocals = 1 := hml0
  have N0 := Fr.nil n0
  have Kp : Keep h0 h0 [] := Keep.refl h0 _
  show Go _ _ _ _ _ _ _ (s₁.setTop (mkF m 0 #[.val (.int x1)] []))
  refine Go.of (fun _ q => XS.iloadN X0.here hx rfl (hb hby d5_0) rfl q) ?_
  show Go _ _ _ _ _ _ _ (s₁.setTop (mkF m 1 #[.val (.int x1)] [(.int x1)]))
  refine Go.of (fun _ q => XS.bipush X0.here hx rfl (hb hby d5_1) q) ?_
  show Go _ _ _ _ _ _ _ (s₁.setTop (mkF m 3 #[.val (.int x1)] [(.int (-128 : Int32)), (.int x1)]))
  by_cases c3 : x1 < (-128 : Int32)
  · refine Go.of (fun _ q => XS.icmpYes X0.here hx rfl (pc0 := 3) (pc' := 23) rfl (hb hby d5_3) rfl (tlt c3).1 (by decide) (by decide) q) ?_
    show Go _ _ _ _ _ _ _ (s₁.setTop (mkF m 23 #[.val (.int x1)] []))
    obtain ⟨T1, h1, X1, e1, E1, A1, D1, -, st1⟩ := newO X0 hx hZ hown (hw _ (List.mem_of_getElem? (i := 35) rfl)) (hw _ (List.mem_of_getElem? (i := 36) rfl)) (hw _ (List.mem_of_getElem? (i := 27) rfl)) e0 (g := (mkF m 23 #[.val (.int x1)] [])) rfl (hb hby d5_23) (by decide) (by decide)
    obtain ⟨b1, g1⟩ : ∃ z, z = h0.size := ⟨_, rfl⟩
    rw [← g1] at A1 D1 st1
    refine Go.of st1 ?_
    have g_b1 : n0 ≤ b1 := Nat.le_trans Zs (Nat.le_of_eq g1.symm)
    have sz_b1 : h0.size ≤ b1 := Nat.le_trans Kp.1 (Nat.le_of_eq g1.symm)
    have Zs := Nat.le_trans Zs E1.1
    have Kp := Kp.ext E1
    have Od := Od.ext E1
    have E_b1 := A1
    have F_b1_value : Fld Z h1 b1 "java/lang/Integer" "value" "I" (.int (0 : Int32)) := D1 (Or.inr (hw _ (List.mem_of_getElem? (i := 49) rfl))) (ty := .int) (by decide)
    show Go _ _ _ _ _ _ _ (T1.setTop (mkF m 26 #[.val (.int x1)] [(.ref b1)]))
    refine Go.of (fun _ q => XS.dup X1.here hx rfl (hb hby d5_26) rfl rfl q) ?_
    show Go _ _ _ _ _ _ _ (T1.setTop (mkF m 27 #[.val (.int x1)] [(.ref b1), (.ref b1)]))
    refine Go.of (fun _ q => XS.iloadN X1.here hx rfl (hb hby d5_27) rfl q) ?_
    show Go _ _ _ _ _ _ _ (T1.setTop (mkF m 28 #[.val (.int x1)] [(.int x1), (.ref b1), (.ref b1)]))
    refine Go.special X1 hx hZ (y := (⟨"java/lang/Integer", "<init>", "(I)V"⟩ : MethodName)) (a := b1) (argsL := [(.int x1)]) rfl hown (hw _ (List.mem_of_getElem? (i := 37) rfl)) (hw _ (List.mem_of_getElem? (i := 38) rfl)) (hw _ (List.mem_of_getElem? (i := 27) rfl)) (hw _ (List.mem_of_getElem? (i := 40) rfl)) (by decide) 1 e1 (rm6 l Z a0 hw b1 x1 (0 : Int32) h1 n0 Zs E_b1 F_b1_value g_b1) (by decide) (by decide) (by decide) (by decide) (g := (mkF m 28 #[.val (.int x1)] [(.int x1), (.ref b1), (.ref b1)])) rfl (by rw [hml]; rfl) (rest := [(.ref b1)]) (lenOf pd1 rfl) rfl (by show 2 * 0 + _ ≤ _; exact Nat.le_of_eq rfl) (hb hby d5_28) ?_
    intro T2 v2 L2 X2 q2
    obtain ⟨rfl, Nq2, K2, f2_0⟩ := q2
    have N2 := Fr.app N0 Nq2
    have Zs := Nat.le_trans Zs K2.1
    have Kp := Kp.trans K2 (allS (P := fun x => x ∈ [] ∨ h0.size ≤ x) (Or.inr sz_b1) all0)
    have Od := Od.keep K2 (allS (P := fun x => n0 ≤ x) g_b1 all0)
    have E_b1 := E_b1.keep K2
    show Go _ _ _ _ _ _ _ (T2.setTop (mkF m 31 #[.val (.int x1)] [(.ref b1)]))
    refine Go.retA X2 hx hlk hret rfl rfl (hb hby d5_31) (by decide) (by decide) ?_
    exact ⟨b1, rfl, N2, Kp, E_b1⟩
  · refine Go.of (fun _ q => XS.icmpNo X0.here hx rfl (hb hby d5_3) rfl (flt c3).1 q) ?_
    show Go _ _ _ _ _ _ _ (s₁.setTop (mkF m 6 #[.val (.int x1)] []))
    refine Go.of (fun _ q => XS.iloadN X0.here hx rfl (hb hby d5_6) rfl q) ?_
    show Go _ _ _ _ _ _ _ (s₁.setTop (mkF m 7 #[.val (.int x1)] [(.int x1)]))
    obtain ⟨T3, X3, e3, st3⟩ := getS2 X0 hx hZ hown (host := "") (Or.inl (hw _ (List.mem_of_getElem? (i := 29) rfl))) Via.refl e0 (Sta.ext Od.2 Shi) (g := (mkF m 7 #[.val (.int x1)] [(.int x1)])) rfl (hb hby d5_7)
    refine Go.of st3 ?_
    show Go _ _ _ _ _ _ _ (T3.setTop (mkF m 10 #[.val (.int x1)] [(.int (127 : Int32)), (.int x1)]))
    by_cases c10 : (127 : Int32) < x1
    · refine Go.of (fun _ q => XS.icmpYes X3.here hx rfl (pc0 := 10) (pc' := 23) rfl (hb hby d5_10) rfl (tlt c10).2.2.1 (by decide) (by decide) q) ?_
      show Go _ _ _ _ _ _ _ (T3.setTop (mkF m 23 #[.val (.int x1)] []))
      obtain ⟨T4, h4, X4, e4, E4, A4, D4, -, st4⟩ := newO X3 hx hZ hown (hw _ (List.mem_of_getElem? (i := 35) rfl)) (hw _ (List.mem_of_getElem? (i := 36) rfl)) (hw _ (List.mem_of_getElem? (i := 27) rfl)) e3 (g := (mkF m 23 #[.val (.int x1)] [])) rfl (hb hby d5_23) (by decide) (by decide)
      obtain ⟨b4, g4⟩ : ∃ z, z = h0.size := ⟨_, rfl⟩
      rw [← g4] at A4 D4 st4
      refine Go.of st4 ?_
      have g_b4 : n0 ≤ b4 := Nat.le_trans Zs (Nat.le_of_eq g4.symm)
      have sz_b4 : h0.size ≤ b4 := Nat.le_trans Kp.1 (Nat.le_of_eq g4.symm)
      have Zs := Nat.le_trans Zs E4.1
      have Kp := Kp.ext E4
      have Od := Od.ext E4
      have E_b4 := A4
      have F_b4_value : Fld Z h4 b4 "java/lang/Integer" "value" "I" (.int (0 : Int32)) := D4 (Or.inr (hw _ (List.mem_of_getElem? (i := 49) rfl))) (ty := .int) (by decide)
      show Go _ _ _ _ _ _ _ (T4.setTop (mkF m 26 #[.val (.int x1)] [(.ref b4)]))
      refine Go.of (fun _ q => XS.dup X4.here hx rfl (hb hby d5_26) rfl rfl q) ?_
      show Go _ _ _ _ _ _ _ (T4.setTop (mkF m 27 #[.val (.int x1)] [(.ref b4), (.ref b4)]))
      refine Go.of (fun _ q => XS.iloadN X4.here hx rfl (hb hby d5_27) rfl q) ?_
      show Go _ _ _ _ _ _ _ (T4.setTop (mkF m 28 #[.val (.int x1)] [(.int x1), (.ref b4), (.ref b4)]))
      refine Go.special X4 hx hZ (y := (⟨"java/lang/Integer", "<init>", "(I)V"⟩ : MethodName)) (a := b4) (argsL := [(.int x1)]) rfl hown (hw _ (List.mem_of_getElem? (i := 37) rfl)) (hw _ (List.mem_of_getElem? (i := 38) rfl)) (hw _ (List.mem_of_getElem? (i := 27) rfl)) (hw _ (List.mem_of_getElem? (i := 40) rfl)) (by decide) 1 e4 (rm6 l Z a0 hw b4 x1 (0 : Int32) h4 n0 Zs E_b4 F_b4_value g_b4) (by decide) (by decide) (by decide) (by decide) (g := (mkF m 28 #[.val (.int x1)] [(.int x1), (.ref b4), (.ref b4)])) rfl (by rw [hml]; rfl) (rest := [(.ref b4)]) (lenOf pd1 rfl) rfl (by show 2 * 0 + _ ≤ _; exact Nat.le_of_eq rfl) (hb hby d5_28) ?_
      intro T5 v5 L5 X5 q5
      obtain ⟨rfl, Nq5, K5, f5_0⟩ := q5
      have N5 := Fr.app N0 Nq5
      have Zs := Nat.le_trans Zs K5.1
      have Kp := Kp.trans K5 (allS (P := fun x => x ∈ [] ∨ h0.size ≤ x) (Or.inr sz_b4) all0)
      have Od := Od.keep K5 (allS (P := fun x => n0 ≤ x) g_b4 all0)
      have E_b4 := E_b4.keep K5
      show Go _ _ _ _ _ _ _ (T5.setTop (mkF m 31 #[.val (.int x1)] [(.ref b4)]))
      refine Go.retA X5 hx hlk hret rfl rfl (hb hby d5_31) (by decide) (by decide) ?_
      exact ⟨b4, rfl, N5, Kp, E_b4⟩
    · refine Go.of (fun _ q => XS.icmpNo X3.here hx rfl (hb hby d5_10) rfl (flt c10).2.2.1 q) ?_
      show Go _ _ _ _ _ _ _ (T3.setTop (mkF m 13 #[.val (.int x1)] []))
      obtain ⟨T6, X6, e6, st6⟩ := getS2 X3 hx hZ hown (host := "") (Or.inl (hw _ (List.mem_of_getElem? (i := 31) rfl))) Via.refl e3 (Sta.ext Od.2 Sca) (g := (mkF m 13 #[.val (.int x1)] [])) rfl (hb hby d5_13)
      refine Go.of st6 ?_
      show Go _ _ _ _ _ _ _ (T6.setTop (mkF m 16 #[.val (.int x1)] [(.ref ca)]))
      refine Go.of (fun _ q => XS.iloadN X6.here hx rfl (hb hby d5_16) rfl q) ?_
      show Go _ _ _ _ _ _ _ (T6.setTop (mkF m 17 #[.val (.int x1)] [(.int x1), (.ref ca)]))
      refine Go.of (fun _ q => XS.sipush X6.here hx rfl (hb hby d5_17) q) ?_
      show Go _ _ _ _ _ _ _ (T6.setTop (mkF m 20 #[.val (.int x1)] [(.int (128 : Int32)), (.int x1), (.ref ca)]))
      refine Go.of (fun _ q => XS.iadd X6.here hx rfl (hb hby d5_20) rfl q) ?_
      have A_ca := (own_bxs Bx rfl (by decide)).ext Od.2
      have ix := own_ix x1 c3 c10
      obtain ⟨bx, hb1, hb2, hb3⟩ := Bx.2.2.2 (x1 + (128 : Int32)) (ix.not_out Bx.2.1)
      have E_bx := hb2.ext Od.2
      show Go _ _ _ _ _ _ _ (T6.setTop (mkF m 21 #[.val (.int x1)] [(.int (x1 + (128 : Int32))), (.ref ca)]))
      refine Go.of (fun _ q => AF.aaload A_ca rfl X6 hx hZ e6 ix (v := (.ref bx)) (by rw [hb1]; rfl) (g := (mkF m 21 #[.val (.int x1)] [(.int (x1 + (128 : Int32))), (.ref ca)])) rfl rfl (hb hby d5_21) q) ?_
      show Go _ _ _ _ _ _ _ (T6.setTop (mkF m 22 #[.val (.int x1)] [(.ref bx)]))
      refine Go.retA X6 hx hlk hret rfl rfl (hb hby d5_22) (by decide) (by decide) ?_
      rw [e6]
      exact ⟨bx, rfl, N0, Kp, E_bx⟩
theorem pd2 : parseMethodDescriptor "(II)V" = some ⟨[.int, .int], none⟩ := by decide +kernel
theorem pd3 : parseMethodDescriptor "(Ljava/lang/Object;)Z" = some ⟨[(.object "java/lang/Object")], some .boolean⟩ := by decide +kernel
theorem pd4 : parseMethodDescriptor "(I)Ljava/lang/Integer;" = some ⟨[.int], some (.object "java/lang/Integer")⟩ := by decide +kernel
theorem pn4 : plainName "com/example/quillon/quillon/roost/PositionEqualsPinLaw" = true := by first | (simp [plainName, overriddenIn]; done) | decide +kernel
theorem ef_0 (m : MethodId) (x1 : Int32) (x2 : Int32) (x3 : Int32) (x4 : Int32) (x5 : Int32) : entryFrame m #[(.int x1), (.int x2), (.int x3), (.int x4), (.int x5)] maxLocals = mkF m 0 #[.val (.int x1), .val (.int x2), .val (.int x3), .val (.int x4), .val (.int x5), .unset, .unset, .unset, .unset, .unset, .unset, .unset] [] := by first | (simp [entryFrame, mkF, argsToLocals, Value.category, maxLocals]; done) | rfl
def Q0 (Z : State) (x1 : Int32) (x2 : Int32) (x3 : Int32) (x4 : Int32) (x5 : Int32) (ca : Addr) (cc : Cell) (h0 : Heap) (n0 : Nat) (v : Option Value) (h : Heap) (L : List Loc) : Prop := v = some (.int (1 : Int32)) ∧ Fr n0 L
set_option maxRecDepth 65536 in
set_option maxHeartbeats 40000000 in
theorem rm0 (l : Launch) (Z : State) (a0 : Array Value) (hw : ∀ d ∈ tables_1, d.before a0 Z = true) (x1 : Int32) (x2 : Int32) (x3 : Int32) (x4 : Int32) (x5 : Int32) (ca : Addr) (cc : Cell) (h0 : Heap) (n0 : Nat) (Zs : n0 ≤ h0.size) (Od : Old Z n0 h0) (Shi : Sta Z Z.heap "java/lang/Integer$IntegerCache" "high" "I" (.int (127 : Int32))) (Sca : Sta Z Z.heap "java/lang/Integer$IntegerCache" "cache" "[Ljava/lang/Integer;" (.ref ca)) (Bx : Bxs Z ca cc "java/lang/Integer" "I" (256 : Int32) (fun j => .int (j - 128))) :
    Con l Z x code maxLocals ret room_1 #[(.int x1), (.int x2), (.int x3), (.int x4), (.int x5)] h0 (Q0 Z x1 x2 x3 x4 x5 ca cc h0 n0) := by
  refine Con.intro (plainFor_of_name pn4) (fun m => ef_0 m x1 x2 x3 x4 x5) ?_
  intro p e s m below meth c s₁ hx hby hml0 hZ hown hnm hret hlk X0 e0
  have hml : c.maxLocals = 12 := hml0
  have N0 := Fr.nil n0
  have Kp : Keep h0 h0 [] := Keep.refl h0 _
  show Go _ _ _ _ _ _ _ (s₁.setTop (mkF m 0 #[.val (.int x1), .val (.int x2), .val (.int x3), .val (.int x4), .val (.int x5), .unset, .unset, .unset, .unset, .unset, .unset, .unset] []))
  refine Go.of (fun _ q => XS.iload X0.here hx rfl (hb hby at_0) rfl q) ?_
  show Go _ _ _ _ _ _ _ (s₁.setTop (mkF m 2 #[.val (.int x1), .val (.int x2), .val (.int x3), .val (.int x4), .val (.int x5), .unset, .unset, .unset, .unset, .unset, .unset, .unset] [(.int x5)]))
  refine Go.of (fun _ q => XS.bipush X0.here hx rfl (hb hby at_2) q) ?_
  show Go _ _ _ _ _ _ _ (s₁.setTop (mkF m 4 #[.val (.int x1), .val (.int x2), .val (.int x3), .val (.int x4), .val (.int x5), .unset, .unset, .unset, .unset, .unset, .unset, .unset] [(.int (7 : Int32)), (.int x5)]))
  refine Go.of (fun _ q => XS.iand X0.here hx rfl (hb hby at_4) rfl q) ?_
  show Go _ _ _ _ _ _ _ (s₁.setTop (mkF m 5 #[.val (.int x1), .val (.int x2), .val (.int x3), .val (.int x4), .val (.int x5), .unset, .unset, .unset, .unset, .unset, .unset, .unset] [(.int (x5 &&& (7 : Int32)))]))
  refine Go.of (fun _ q => XS.istore X0.here hx rfl (hb hby at_5) rfl (l' := #[.val (.int x1), .val (.int x2), .val (.int x3), .val (.int x4), .val (.int x5), .val (.int (x5 &&& (7 : Int32))), .unset, .unset, .unset, .unset, .unset, .unset]) rfl q) ?_
  show Go _ _ _ _ _ _ _ (s₁.setTop (mkF m 7 #[.val (.int x1), .val (.int x2), .val (.int x3), .val (.int x4), .val (.int x5), .val (.int (x5 &&& (7 : Int32))), .unset, .unset, .unset, .unset, .unset, .unset] []))
  refine Go.of (fun _ q => XS.iload X0.here hx rfl (hb hby at_7) rfl q) ?_
  show Go _ _ _ _ _ _ _ (s₁.setTop (mkF m 9 #[.val (.int x1), .val (.int x2), .val (.int x3), .val (.int x4), .val (.int x5), .val (.int (x5 &&& (7 : Int32))), .unset, .unset, .unset, .unset, .unset, .unset] [(.int (x5 &&& (7 : Int32)))]))
  refine Go.of (fun _ q => XS.iconst X0.here hx rfl (hb hby at_9) q) ?_
  show Go _ _ _ _ _ _ _ (s₁.setTop (mkF m 10 #[.val (.int x1), .val (.int x2), .val (.int x3), .val (.int x4), .val (.int x5), .val (.int (x5 &&& (7 : Int32))), .unset, .unset, .unset, .unset, .unset, .unset] [(.int (1 : Int32)), (.int (x5 &&& (7 : Int32)))]))
  refine Go.of (fun _ q => XS.iand X0.here hx rfl (hb hby at_10) rfl q) ?_
  show Go _ _ _ _ _ _ _ (s₁.setTop (mkF m 11 #[.val (.int x1), .val (.int x2), .val (.int x3), .val (.int x4), .val (.int x5), .val (.int (x5 &&& (7 : Int32))), .unset, .unset, .unset, .unset, .unset, .unset] [(.int ((x5 &&& (7 : Int32)) &&& (1 : Int32)))]))
  have J1 : ∀ (zJ1_0 : Int32), zJ1_0 = (if ((x5 &&& (7 : Int32)) &&& (1 : Int32)) = (0 : Int32) then x3 else x1) → Go p e below s room_1.cells room_1.slots (Q0 Z x1 x2 x3 x4 x5 ca cc h0 n0) (s₁.setTop (mkF m 19 #[.val (.int x1), .val (.int x2), .val (.int x3), .val (.int x4), .val (.int x5), .val (.int (x5 &&& (7 : Int32))), .unset, .unset, .unset, .unset, .unset, .unset] [(.int zJ1_0)])) := by
    intro zJ1_0 hzJ1_0
    show Go _ _ _ _ _ _ _ (s₁.setTop (mkF m 19 #[.val (.int x1), .val (.int x2), .val (.int x3), .val (.int x4), .val (.int x5), .val (.int (x5 &&& (7 : Int32))), .unset, .unset, .unset, .unset, .unset, .unset] [(.int zJ1_0)]))
    refine Go.of (fun _ q => XS.istore X0.here hx rfl (hb hby at_19) rfl (l' := #[.val (.int x1), .val (.int x2), .val (.int x3), .val (.int x4), .val (.int x5), .val (.int (x5 &&& (7 : Int32))), .val (.int zJ1_0), .unset, .unset, .unset, .unset, .unset]) rfl q) ?_
    show Go _ _ _ _ _ _ _ (s₁.setTop (mkF m 21 #[.val (.int x1), .val (.int x2), .val (.int x3), .val (.int x4), .val (.int x5), .val (.int (x5 &&& (7 : Int32))), .val (.int zJ1_0), .unset, .unset, .unset, .unset, .unset] []))
    refine Go.of (fun _ q => XS.iload X0.here hx rfl (hb hby at_21) rfl q) ?_
    show Go _ _ _ _ _ _ _ (s₁.setTop (mkF m 23 #[.val (.int x1), .val (.int x2), .val (.int x3), .val (.int x4), .val (.int x5), .val (.int (x5 &&& (7 : Int32))), .val (.int zJ1_0), .unset, .unset, .unset, .unset, .unset] [(.int (x5 &&& (7 : Int32)))]))
    refine Go.of (fun _ q => XS.iconst X0.here hx rfl (hb hby at_23) q) ?_
    show Go _ _ _ _ _ _ _ (s₁.setTop (mkF m 24 #[.val (.int x1), .val (.int x2), .val (.int x3), .val (.int x4), .val (.int x5), .val (.int (x5 &&& (7 : Int32))), .val (.int zJ1_0), .unset, .unset, .unset, .unset, .unset] [(.int (2 : Int32)), (.int (x5 &&& (7 : Int32)))]))
    refine Go.of (fun _ q => XS.iand X0.here hx rfl (hb hby at_24) rfl q) ?_
    show Go _ _ _ _ _ _ _ (s₁.setTop (mkF m 25 #[.val (.int x1), .val (.int x2), .val (.int x3), .val (.int x4), .val (.int x5), .val (.int (x5 &&& (7 : Int32))), .val (.int zJ1_0), .unset, .unset, .unset, .unset, .unset] [(.int ((x5 &&& (7 : Int32)) &&& (2 : Int32)))]))
    have J2 : ∀ (zJ2_0 : Int32), zJ2_0 = (if ((x5 &&& (7 : Int32)) &&& (2 : Int32)) = (0 : Int32) then x4 else x2) → Go p e below s room_1.cells room_1.slots (Q0 Z x1 x2 x3 x4 x5 ca cc h0 n0) (s₁.setTop (mkF m 33 #[.val (.int x1), .val (.int x2), .val (.int x3), .val (.int x4), .val (.int x5), .val (.int (x5 &&& (7 : Int32))), .val (.int zJ1_0), .unset, .unset, .unset, .unset, .unset] [(.int zJ2_0)])) := by
      intro zJ2_0 hzJ2_0
      show Go _ _ _ _ _ _ _ (s₁.setTop (mkF m 33 #[.val (.int x1), .val (.int x2), .val (.int x3), .val (.int x4), .val (.int x5), .val (.int (x5 &&& (7 : Int32))), .val (.int zJ1_0), .unset, .unset, .unset, .unset, .unset] [(.int zJ2_0)]))
      refine Go.of (fun _ q => XS.istore X0.here hx rfl (hb hby at_33) rfl (l' := #[.val (.int x1), .val (.int x2), .val (.int x3), .val (.int x4), .val (.int x5), .val (.int (x5 &&& (7 : Int32))), .val (.int zJ1_0), .val (.int zJ2_0), .unset, .unset, .unset, .unset]) rfl q) ?_
      show Go _ _ _ _ _ _ _ (s₁.setTop (mkF m 35 #[.val (.int x1), .val (.int x2), .val (.int x3), .val (.int x4), .val (.int x5), .val (.int (x5 &&& (7 : Int32))), .val (.int zJ1_0), .val (.int zJ2_0), .unset, .unset, .unset, .unset] []))
      obtain ⟨T3, h3, X3, e3, E3, A3, D3, -, st3⟩ := newO X0 hx hZ hown (hw _ (List.mem_of_getElem? (i := 0) rfl)) (hw _ (List.mem_of_getElem? (i := 1) rfl)) (hw _ (List.mem_of_getElem? (i := 2) rfl)) e0 (g := (mkF m 35 #[.val (.int x1), .val (.int x2), .val (.int x3), .val (.int x4), .val (.int x5), .val (.int (x5 &&& (7 : Int32))), .val (.int zJ1_0), .val (.int zJ2_0), .unset, .unset, .unset, .unset] [])) rfl (hb hby at_35) (by decide) (by decide)
      obtain ⟨a, g3⟩ : ∃ z, z = h0.size := ⟨_, rfl⟩
      rw [← g3] at A3 D3 st3
      refine Go.of st3 ?_
      have g_a : n0 ≤ a := Nat.le_trans Zs (Nat.le_of_eq g3.symm)
      have sz_a : h0.size ≤ a := Nat.le_trans Kp.1 (Nat.le_of_eq g3.symm)
      have Zs := Nat.le_trans Zs E3.1
      have Kp := Kp.ext E3
      have Od := Od.ext E3
      have E_a := A3
      have F_a_line : Fld Z h3 a "com/example/quillon/quillon/roost/Position" "line" "I" (.int (0 : Int32)) := D3 (Or.inr (hw _ (List.mem_of_getElem? (i := 15) rfl))) (ty := .int) (by decide)
      have F_a_column : Fld Z h3 a "com/example/quillon/quillon/roost/Position" "column" "I" (.int (0 : Int32)) := D3 (Or.inr (hw _ (List.mem_of_getElem? (i := 17) rfl))) (ty := .int) (by decide)
      show Go _ _ _ _ _ _ _ (T3.setTop (mkF m 38 #[.val (.int x1), .val (.int x2), .val (.int x3), .val (.int x4), .val (.int x5), .val (.int (x5 &&& (7 : Int32))), .val (.int zJ1_0), .val (.int zJ2_0), .unset, .unset, .unset, .unset] [(.ref a)]))
      refine Go.of (fun _ q => XS.dup X3.here hx rfl (hb hby at_38) rfl rfl q) ?_
      show Go _ _ _ _ _ _ _ (T3.setTop (mkF m 39 #[.val (.int x1), .val (.int x2), .val (.int x3), .val (.int x4), .val (.int x5), .val (.int (x5 &&& (7 : Int32))), .val (.int zJ1_0), .val (.int zJ2_0), .unset, .unset, .unset, .unset] [(.ref a), (.ref a)]))
      refine Go.of (fun _ q => XS.iloadN X3.here hx rfl (hb hby at_39) rfl q) ?_
      show Go _ _ _ _ _ _ _ (T3.setTop (mkF m 40 #[.val (.int x1), .val (.int x2), .val (.int x3), .val (.int x4), .val (.int x5), .val (.int (x5 &&& (7 : Int32))), .val (.int zJ1_0), .val (.int zJ2_0), .unset, .unset, .unset, .unset] [(.int x1), (.ref a), (.ref a)]))
      refine Go.of (fun _ q => XS.iloadN X3.here hx rfl (hb hby at_40) rfl q) ?_
      show Go _ _ _ _ _ _ _ (T3.setTop (mkF m 41 #[.val (.int x1), .val (.int x2), .val (.int x3), .val (.int x4), .val (.int x5), .val (.int (x5 &&& (7 : Int32))), .val (.int zJ1_0), .val (.int zJ2_0), .unset, .unset, .unset, .unset] [(.int x2), (.int x1), (.ref a), (.ref a)]))
      refine Go.special X3 hx hZ (y := (⟨"com/example/quillon/quillon/roost/Position", "<init>", "(II)V"⟩ : MethodName)) (a := a) (argsL := [(.int x1), (.int x2)]) rfl hown (hw _ (List.mem_of_getElem? (i := 3) rfl)) (hw _ (List.mem_of_getElem? (i := 4) rfl)) (hw _ (List.mem_of_getElem? (i := 2) rfl)) (hw _ (List.mem_of_getElem? (i := 5) rfl)) (by decide) 1 e3 (rm1 l Z a0 hw a x1 x2 (0 : Int32) (0 : Int32) h3 n0 Zs E_a F_a_line F_a_column g_a) (by decide) (by decide) (by decide) (by decide) (g := (mkF m 41 #[.val (.int x1), .val (.int x2), .val (.int x3), .val (.int x4), .val (.int x5), .val (.int (x5 &&& (7 : Int32))), .val (.int zJ1_0), .val (.int zJ2_0), .unset, .unset, .unset, .unset] [(.int x2), (.int x1), (.ref a), (.ref a)])) rfl (by rw [hml]; rfl) (rest := [(.ref a)]) (lenOf pd2 rfl) rfl (by show 2 * 0 + _ ≤ _; exact Nat.le_of_eq rfl) (hb hby at_41) ?_
      intro T4 v4 L4 X4 q4
      obtain ⟨rfl, Nq4, K4, f4_0, f4_1, f4_2⟩ := q4
      have N4 := Fr.app N0 Nq4
      have Zs := Nat.le_trans Zs K4.1
      have Kp := Kp.trans K4 (allS (P := fun x => x ∈ [] ∨ h0.size ≤ x) (Or.inr sz_a) all0)
      have Od := Od.keep K4 (allS (P := fun x => n0 ≤ x) g_a all0)
      have E_a := E_a.keep K4
      have F_a_line := f4_1
      have F_a_column := f4_2
      show Go _ _ _ _ _ _ _ (T4.setTop (mkF m 44 #[.val (.int x1), .val (.int x2), .val (.int x3), .val (.int x4), .val (.int x5), .val (.int (x5 &&& (7 : Int32))), .val (.int zJ1_0), .val (.int zJ2_0), .unset, .unset, .unset, .unset] [(.ref a)]))
      refine Go.of (fun _ q => XS.astore X4.here hx rfl (hb hby at_44) rfl rfl (l' := #[.val (.int x1), .val (.int x2), .val (.int x3), .val (.int x4), .val (.int x5), .val (.int (x5 &&& (7 : Int32))), .val (.int zJ1_0), .val (.int zJ2_0), .val (.ref a), .unset, .unset, .unset]) rfl q) ?_
      show Go _ _ _ _ _ _ _ (T4.setTop (mkF m 46 #[.val (.int x1), .val (.int x2), .val (.int x3), .val (.int x4), .val (.int x5), .val (.int (x5 &&& (7 : Int32))), .val (.int zJ1_0), .val (.int zJ2_0), .val (.ref a), .unset, .unset, .unset] []))
      refine Go.of (fun _ q => XS.iload X4.here hx rfl (hb hby at_46) rfl q) ?_
      show Go _ _ _ _ _ _ _ (T4.setTop (mkF m 48 #[.val (.int x1), .val (.int x2), .val (.int x3), .val (.int x4), .val (.int x5), .val (.int (x5 &&& (7 : Int32))), .val (.int zJ1_0), .val (.int zJ2_0), .val (.ref a), .unset, .unset, .unset] [(.int (x5 &&& (7 : Int32)))]))
      refine Go.of (fun _ q => XS.iconst X4.here hx rfl (hb hby at_48) q) ?_
      show Go _ _ _ _ _ _ _ (T4.setTop (mkF m 49 #[.val (.int x1), .val (.int x2), .val (.int x3), .val (.int x4), .val (.int x5), .val (.int (x5 &&& (7 : Int32))), .val (.int zJ1_0), .val (.int zJ2_0), .val (.ref a), .unset, .unset, .unset] [(.int (4 : Int32)), (.int (x5 &&& (7 : Int32)))]))
      refine Go.of (fun _ q => XS.iand X4.here hx rfl (hb hby at_49) rfl q) ?_
      show Go _ _ _ _ _ _ _ (T4.setTop (mkF m 50 #[.val (.int x1), .val (.int x2), .val (.int x3), .val (.int x4), .val (.int x5), .val (.int (x5 &&& (7 : Int32))), .val (.int zJ1_0), .val (.int zJ2_0), .val (.ref a), .unset, .unset, .unset] [(.int ((x5 &&& (7 : Int32)) &&& (4 : Int32)))]))
      by_cases c50 : ((x5 &&& (7 : Int32)) &&& (4 : Int32)) = (0 : Int32)
      · refine Go.of (fun _ q => XS.ifNo X4.here hx rfl (hb hby at_50) rfl ((if0 _ _).trans (teq c50).2) q) ?_
        show Go _ _ _ _ _ _ _ (T4.setTop (mkF m 53 #[.val (.int x1), .val (.int x2), .val (.int x3), .val (.int x4), .val (.int x5), .val (.int (x5 &&& (7 : Int32))), .val (.int zJ1_0), .val (.int zJ2_0), .val (.ref a), .unset, .unset, .unset] []))
        obtain ⟨T5, h5, X5, e5, E5, A5, D5, -, st5⟩ := newO X4 hx hZ hown (hw _ (List.mem_of_getElem? (i := 0) rfl)) (hw _ (List.mem_of_getElem? (i := 1) rfl)) (hw _ (List.mem_of_getElem? (i := 2) rfl)) rfl (g := (mkF m 53 #[.val (.int x1), .val (.int x2), .val (.int x3), .val (.int x4), .val (.int x5), .val (.int (x5 &&& (7 : Int32))), .val (.int zJ1_0), .val (.int zJ2_0), .val (.ref a), .unset, .unset, .unset] [])) rfl (hb hby at_53) (by decide) (by decide)
        obtain ⟨b, g5⟩ : ∃ z, z = T4.heap.size := ⟨_, rfl⟩
        rw [← g5] at A5 D5 st5
        refine Go.of st5 ?_
        have g_b : n0 ≤ b := Nat.le_trans Zs (Nat.le_of_eq g5.symm)
        have sz_b : h0.size ≤ b := Nat.le_trans Kp.1 (Nat.le_of_eq g5.symm)
        have ne_a_b : a ≠ b := Nat.ne_of_lt (Nat.lt_of_lt_of_le E_a.lt (Nat.le_of_eq g5.symm))
        have Zs := Nat.le_trans Zs E5.1
        have Kp := Kp.ext E5
        have Od := Od.ext E5
        have E_a := E_a.ext E5
        have F_a_line := F_a_line.ext E5
        have F_a_column := F_a_column.ext E5
        have E_b := A5
        have F_b_line : Fld Z h5 b "com/example/quillon/quillon/roost/Position" "line" "I" (.int (0 : Int32)) := D5 (Or.inr (hw _ (List.mem_of_getElem? (i := 15) rfl))) (ty := .int) (by decide)
        have F_b_column : Fld Z h5 b "com/example/quillon/quillon/roost/Position" "column" "I" (.int (0 : Int32)) := D5 (Or.inr (hw _ (List.mem_of_getElem? (i := 17) rfl))) (ty := .int) (by decide)
        show Go _ _ _ _ _ _ _ (T5.setTop (mkF m 56 #[.val (.int x1), .val (.int x2), .val (.int x3), .val (.int x4), .val (.int x5), .val (.int (x5 &&& (7 : Int32))), .val (.int zJ1_0), .val (.int zJ2_0), .val (.ref a), .unset, .unset, .unset] [(.ref b)]))
        refine Go.of (fun _ q => XS.dup X5.here hx rfl (hb hby at_56) rfl rfl q) ?_
        show Go _ _ _ _ _ _ _ (T5.setTop (mkF m 57 #[.val (.int x1), .val (.int x2), .val (.int x3), .val (.int x4), .val (.int x5), .val (.int (x5 &&& (7 : Int32))), .val (.int zJ1_0), .val (.int zJ2_0), .val (.ref a), .unset, .unset, .unset] [(.ref b), (.ref b)]))
        refine Go.of (fun _ q => XS.iload X5.here hx rfl (hb hby at_57) rfl q) ?_
        show Go _ _ _ _ _ _ _ (T5.setTop (mkF m 59 #[.val (.int x1), .val (.int x2), .val (.int x3), .val (.int x4), .val (.int x5), .val (.int (x5 &&& (7 : Int32))), .val (.int zJ1_0), .val (.int zJ2_0), .val (.ref a), .unset, .unset, .unset] [(.int zJ1_0), (.ref b), (.ref b)]))
        refine Go.of (fun _ q => XS.iload X5.here hx rfl (hb hby at_59) rfl q) ?_
        show Go _ _ _ _ _ _ _ (T5.setTop (mkF m 61 #[.val (.int x1), .val (.int x2), .val (.int x3), .val (.int x4), .val (.int x5), .val (.int (x5 &&& (7 : Int32))), .val (.int zJ1_0), .val (.int zJ2_0), .val (.ref a), .unset, .unset, .unset] [(.int zJ2_0), (.int zJ1_0), (.ref b), (.ref b)]))
        refine Go.special X5 hx hZ (y := (⟨"com/example/quillon/quillon/roost/Position", "<init>", "(II)V"⟩ : MethodName)) (a := b) (argsL := [(.int zJ1_0), (.int zJ2_0)]) rfl hown (hw _ (List.mem_of_getElem? (i := 3) rfl)) (hw _ (List.mem_of_getElem? (i := 4) rfl)) (hw _ (List.mem_of_getElem? (i := 2) rfl)) (hw _ (List.mem_of_getElem? (i := 5) rfl)) (by decide) 1 e5 (rm1 l Z a0 hw b zJ1_0 zJ2_0 (0 : Int32) (0 : Int32) h5 n0 Zs E_b F_b_line F_b_column g_b) (by decide) (by decide) (by decide) (by decide) (g := (mkF m 61 #[.val (.int x1), .val (.int x2), .val (.int x3), .val (.int x4), .val (.int x5), .val (.int (x5 &&& (7 : Int32))), .val (.int zJ1_0), .val (.int zJ2_0), .val (.ref a), .unset, .unset, .unset] [(.int zJ2_0), (.int zJ1_0), (.ref b), (.ref b)])) rfl (by rw [hml]; rfl) (rest := [(.ref b)]) (lenOf pd2 rfl) rfl (by show 2 * 0 + _ ≤ _; exact Nat.le_of_eq rfl) (hb hby at_61) ?_
        intro T6 v6 L6 X6 q6
        obtain ⟨rfl, Nq6, K6, f6_0, f6_1, f6_2⟩ := q6
        have N6 := Fr.app N4 Nq6
        have Zs := Nat.le_trans Zs K6.1
        have Kp := Kp.trans K6 (allS (P := fun x => x ∈ [] ∨ h0.size ≤ x) (Or.inr sz_b) all0)
        have Od := Od.keep K6 (allS (P := fun x => n0 ≤ x) g_b all0)
        have E_a := E_a.keep K6
        have F_a_line := F_a_line.keep K6 (ninS ne_a_b nin0)
        have F_a_column := F_a_column.keep K6 (ninS ne_a_b nin0)
        have E_b := E_b.keep K6
        have F_b_line := f6_1
        have F_b_column := f6_2
        show Go _ _ _ _ _ _ _ (T6.setTop (mkF m 64 #[.val (.int x1), .val (.int x2), .val (.int x3), .val (.int x4), .val (.int x5), .val (.int (x5 &&& (7 : Int32))), .val (.int zJ1_0), .val (.int zJ2_0), .val (.ref a), .unset, .unset, .unset] [(.ref b)]))
        refine Go.of (fun _ q => XS.astore X6.here hx rfl (hb hby at_64) rfl rfl (l' := #[.val (.int x1), .val (.int x2), .val (.int x3), .val (.int x4), .val (.int x5), .val (.int (x5 &&& (7 : Int32))), .val (.int zJ1_0), .val (.int zJ2_0), .val (.ref a), .val (.ref b), .unset, .unset]) rfl q) ?_
        show Go _ _ _ _ _ _ _ (T6.setTop (mkF m 66 #[.val (.int x1), .val (.int x2), .val (.int x3), .val (.int x4), .val (.int x5), .val (.int (x5 &&& (7 : Int32))), .val (.int zJ1_0), .val (.int zJ2_0), .val (.ref a), .val (.ref b), .unset, .unset] []))
        refine Go.of (fun _ q => XS.iload X6.here hx rfl (hb hby at_66) rfl q) ?_
        show Go _ _ _ _ _ _ _ (T6.setTop (mkF m 68 #[.val (.int x1), .val (.int x2), .val (.int x3), .val (.int x4), .val (.int x5), .val (.int (x5 &&& (7 : Int32))), .val (.int zJ1_0), .val (.int zJ2_0), .val (.ref a), .val (.ref b), .unset, .unset] [(.int zJ1_0)]))
        refine Go.of (fun _ q => XS.iloadN X6.here hx rfl (hb hby at_68) rfl q) ?_
        show Go _ _ _ _ _ _ _ (T6.setTop (mkF m 69 #[.val (.int x1), .val (.int x2), .val (.int x3), .val (.int x4), .val (.int x5), .val (.int (x5 &&& (7 : Int32))), .val (.int zJ1_0), .val (.int zJ2_0), .val (.ref a), .val (.ref b), .unset, .unset] [(.int x1), (.int zJ1_0)]))
        have J7 : ∀ (zJ7_0 : Int32), zJ7_0 = (if zJ1_0 = x1 then (if zJ2_0 = x2 then (1 : Int32) else (0 : Int32)) else (0 : Int32)) → Go p e below s room_1.cells room_1.slots (Q0 Z x1 x2 x3 x4 x5 ca cc h0 n0) (T6.setTop (mkF m 83 #[.val (.int x1), .val (.int x2), .val (.int x3), .val (.int x4), .val (.int x5), .val (.int (x5 &&& (7 : Int32))), .val (.int zJ1_0), .val (.int zJ2_0), .val (.ref a), .val (.ref b), .unset, .unset] [(.int zJ7_0)])) := by
          intro zJ7_0 hzJ7_0
          subst hzJ7_0
          show Go _ _ _ _ _ _ _ (T6.setTop (mkF m 83 #[.val (.int x1), .val (.int x2), .val (.int x3), .val (.int x4), .val (.int x5), .val (.int (x5 &&& (7 : Int32))), .val (.int zJ1_0), .val (.int zJ2_0), .val (.ref a), .val (.ref b), .unset, .unset] [(.int (if zJ1_0 = x1 then (if zJ2_0 = x2 then (1 : Int32) else (0 : Int32)) else (0 : Int32)))]))
          refine Go.of (fun _ q => XS.istore X6.here hx rfl (hb hby at_83) rfl (l' := #[.val (.int x1), .val (.int x2), .val (.int x3), .val (.int x4), .val (.int x5), .val (.int (x5 &&& (7 : Int32))), .val (.int zJ1_0), .val (.int zJ2_0), .val (.ref a), .val (.ref b), .val (.int (if zJ1_0 = x1 then (if zJ2_0 = x2 then (1 : Int32) else (0 : Int32)) else (0 : Int32))), .unset]) rfl q) ?_
          show Go _ _ _ _ _ _ _ (T6.setTop (mkF m 85 #[.val (.int x1), .val (.int x2), .val (.int x3), .val (.int x4), .val (.int x5), .val (.int (x5 &&& (7 : Int32))), .val (.int zJ1_0), .val (.int zJ2_0), .val (.ref a), .val (.ref b), .val (.int (if zJ1_0 = x1 then (if zJ2_0 = x2 then (1 : Int32) else (0 : Int32)) else (0 : Int32))), .unset] []))
          refine Go.of (fun _ q => XS.goto X6.here hx rfl (pc0 := 85) (pc' := 114) rfl (hb hby at_85) (by decide) (by decide) q) ?_
          show Go _ _ _ _ _ _ _ (T6.setTop (mkF m 114 #[.val (.int x1), .val (.int x2), .val (.int x3), .val (.int x4), .val (.int x5), .val (.int (x5 &&& (7 : Int32))), .val (.int zJ1_0), .val (.int zJ2_0), .val (.ref a), .val (.ref b), .val (.int (if zJ1_0 = x1 then (if zJ2_0 = x2 then (1 : Int32) else (0 : Int32)) else (0 : Int32))), .unset] []))
          refine Go.of (fun _ q => XS.aload X6.here hx rfl (hb hby at_114) rfl rfl q) ?_
          show Go _ _ _ _ _ _ _ (T6.setTop (mkF m 116 #[.val (.int x1), .val (.int x2), .val (.int x3), .val (.int x4), .val (.int x5), .val (.int (x5 &&& (7 : Int32))), .val (.int zJ1_0), .val (.int zJ2_0), .val (.ref a), .val (.ref b), .val (.int (if zJ1_0 = x1 then (if zJ2_0 = x2 then (1 : Int32) else (0 : Int32)) else (0 : Int32))), .unset] [(.ref a)]))
          refine Go.of (fun _ q => XS.aload X6.here hx rfl (hb hby at_116) rfl rfl q) ?_
          show Go _ _ _ _ _ _ _ (T6.setTop (mkF m 118 #[.val (.int x1), .val (.int x2), .val (.int x3), .val (.int x4), .val (.int x5), .val (.int (x5 &&& (7 : Int32))), .val (.int zJ1_0), .val (.int zJ2_0), .val (.ref a), .val (.ref b), .val (.int (if zJ1_0 = x1 then (if zJ2_0 = x2 then (1 : Int32) else (0 : Int32)) else (0 : Int32))), .unset] [(.ref a), (.ref a)]))
          refine Go.virtual X6 hx hZ (y := (⟨"com/example/quillon/quillon/roost/Position", "equals", "(Ljava/lang/Object;)Z"⟩ : MethodName)) (z := (⟨"com/example/quillon/quillon/roost/Position", "equals", "(Ljava/lang/Object;)Z"⟩ : MethodName)) (a := a) (argsL := [(.ref a)]) hown (hw _ (List.mem_of_getElem? (i := 18) rfl)) (hw _ (List.mem_of_getElem? (i := 19) rfl)) (notFace_of_selects (args := #[]) (mvT hZ (hw _ (List.mem_of_getElem? (i := 21) rfl)))) (hw _ (List.mem_of_getElem? (i := 21) rfl)) (hw _ (List.mem_of_getElem? (i := 20) rfl)) (hw _ (List.mem_of_getElem? (i := 2) rfl)) (hw _ (List.mem_of_getElem? (i := 22) rfl)) (by decide) 0 rfl E_a (rm4_P l Z a0 hw a a x1 x2 x1 x2 T6.heap n0 Zs F_a_line F_a_column E_a F_a_line F_a_column) (by decide) (by decide) (by decide) (by decide) (g := (mkF m 118 #[.val (.int x1), .val (.int x2), .val (.int x3), .val (.int x4), .val (.int x5), .val (.int (x5 &&& (7 : Int32))), .val (.int zJ1_0), .val (.int zJ2_0), .val (.ref a), .val (.ref b), .val (.int (if zJ1_0 = x1 then (if zJ2_0 = x2 then (1 : Int32) else (0 : Int32)) else (0 : Int32))), .unset] [(.ref a), (.ref a)])) rfl (by rw [hml]; rfl) (rest := []) (lenOf pd3 rfl) rfl (by show 2 * 0 + _ ≤ _; exact Nat.le_of_eq rfl) (hb hby at_118) ?_
          intro T8 v8 L8 X8 q8
          obtain ⟨rfl, Nq8, e8⟩ := q8
          have N8 := Fr.app N6 Nq8
          show Go _ _ _ _ _ _ _ (T8.setTop (mkF m 121 #[.val (.int x1), .val (.int x2), .val (.int x3), .val (.int x4), .val (.int x5), .val (.int (x5 &&& (7 : Int32))), .val (.int zJ1_0), .val (.int zJ2_0), .val (.ref a), .val (.ref b), .val (.int (if zJ1_0 = x1 then (if zJ2_0 = x2 then (1 : Int32) else (0 : Int32)) else (0 : Int32))), .unset] [(.int (if x1 = x1 then (if x2 = x2 then (1 : Int32) else (0 : Int32)) else (0 : Int32)))]))
          refine Go.of (fun _ q => XS.istore X8.here hx rfl (hb hby at_121) rfl (l' := #[.val (.int x1), .val (.int x2), .val (.int x3), .val (.int x4), .val (.int x5), .val (.int (x5 &&& (7 : Int32))), .val (.int zJ1_0), .val (.int zJ2_0), .val (.ref a), .val (.ref b), .val (.int (if zJ1_0 = x1 then (if zJ2_0 = x2 then (1 : Int32) else (0 : Int32)) else (0 : Int32))), .val (.int (if x1 = x1 then (if x2 = x2 then (1 : Int32) else (0 : Int32)) else (0 : Int32)))]) rfl q) ?_
          show Go _ _ _ _ _ _ _ (T8.setTop (mkF m 123 #[.val (.int x1), .val (.int x2), .val (.int x3), .val (.int x4), .val (.int x5), .val (.int (x5 &&& (7 : Int32))), .val (.int zJ1_0), .val (.int zJ2_0), .val (.ref a), .val (.ref b), .val (.int (if zJ1_0 = x1 then (if zJ2_0 = x2 then (1 : Int32) else (0 : Int32)) else (0 : Int32))), .val (.int (if x1 = x1 then (if x2 = x2 then (1 : Int32) else (0 : Int32)) else (0 : Int32)))] []))
          refine Go.of (fun _ q => XS.iload X8.here hx rfl (hb hby at_123) rfl q) ?_
          show Go _ _ _ _ _ _ _ (T8.setTop (mkF m 125 #[.val (.int x1), .val (.int x2), .val (.int x3), .val (.int x4), .val (.int x5), .val (.int (x5 &&& (7 : Int32))), .val (.int zJ1_0), .val (.int zJ2_0), .val (.ref a), .val (.ref b), .val (.int (if zJ1_0 = x1 then (if zJ2_0 = x2 then (1 : Int32) else (0 : Int32)) else (0 : Int32))), .val (.int (if x1 = x1 then (if x2 = x2 then (1 : Int32) else (0 : Int32)) else (0 : Int32)))] [(.int (if x1 = x1 then (if x2 = x2 then (1 : Int32) else (0 : Int32)) else (0 : Int32)))]))
          refine Go.of (fun _ q => XS.ifNo X8.here hx rfl (hb hby at_125) rfl ((if0 _ _).trans (feq (by simp)).1) q) ?_
          show Go _ _ _ _ _ _ _ (T8.setTop (mkF m 128 #[.val (.int x1), .val (.int x2), .val (.int x3), .val (.int x4), .val (.int x5), .val (.int (x5 &&& (7 : Int32))), .val (.int zJ1_0), .val (.int zJ2_0), .val (.ref a), .val (.ref b), .val (.int (if zJ1_0 = x1 then (if zJ2_0 = x2 then (1 : Int32) else (0 : Int32)) else (0 : Int32))), .val (.int (if x1 = x1 then (if x2 = x2 then (1 : Int32) else (0 : Int32)) else (0 : Int32)))] []))
          refine Go.of (fun _ q => XS.aload X8.here hx rfl (hb hby at_128) rfl rfl q) ?_
          show Go _ _ _ _ _ _ _ (T8.setTop (mkF m 130 #[.val (.int x1), .val (.int x2), .val (.int x3), .val (.int x4), .val (.int x5), .val (.int (x5 &&& (7 : Int32))), .val (.int zJ1_0), .val (.int zJ2_0), .val (.ref a), .val (.ref b), .val (.int (if zJ1_0 = x1 then (if zJ2_0 = x2 then (1 : Int32) else (0 : Int32)) else (0 : Int32))), .val (.int (if x1 = x1 then (if x2 = x2 then (1 : Int32) else (0 : Int32)) else (0 : Int32)))] [(.ref a)]))
          refine Go.of (fun _ q => XS.aload X8.here hx rfl (hb hby at_130) rfl rfl q) ?_
          show Go _ _ _ _ _ _ _ (T8.setTop (mkF m 132 #[.val (.int x1), .val (.int x2), .val (.int x3), .val (.int x4), .val (.int x5), .val (.int (x5 &&& (7 : Int32))), .val (.int zJ1_0), .val (.int zJ2_0), .val (.ref a), .val (.ref b), .val (.int (if zJ1_0 = x1 then (if zJ2_0 = x2 then (1 : Int32) else (0 : Int32)) else (0 : Int32))), .val (.int (if x1 = x1 then (if x2 = x2 then (1 : Int32) else (0 : Int32)) else (0 : Int32)))] [(.ref b), (.ref a)]))
          refine Go.virtual X8 hx hZ (y := (⟨"com/example/quillon/quillon/roost/Position", "equals", "(Ljava/lang/Object;)Z"⟩ : MethodName)) (z := (⟨"com/example/quillon/quillon/roost/Position", "equals", "(Ljava/lang/Object;)Z"⟩ : MethodName)) (a := a) (argsL := [(.ref b)]) hown (hw _ (List.mem_of_getElem? (i := 18) rfl)) (hw _ (List.mem_of_getElem? (i := 19) rfl)) (notFace_of_selects (args := #[]) (mvT hZ (hw _ (List.mem_of_getElem? (i := 21) rfl)))) (hw _ (List.mem_of_getElem? (i := 21) rfl)) (hw _ (List.mem_of_getElem? (i := 20) rfl)) (hw _ (List.mem_of_getElem? (i := 2) rfl)) (hw _ (List.mem_of_getElem? (i := 22) rfl)) (by decide) 0 e8 E_a (rm4_P l Z a0 hw a b x1 x2 zJ1_0 zJ2_0 T6.heap n0 Zs F_a_line F_a_column E_b F_b_line F_b_column) (by decide) (by decide) (by decide) (by decide) (g := (mkF m 132 #[.val (.int x1), .val (.int x2), .val (.int x3), .val (.int x4), .val (.int x5), .val (.int (x5 &&& (7 : Int32))), .val (.int zJ1_0), .val (.int zJ2_0), .val (.ref a), .val (.ref b), .val (.int (if zJ1_0 = x1 then (if zJ2_0 = x2 then (1 : Int32) else (0 : Int32)) else (0 : Int32))), .val (.int (if x1 = x1 then (if x2 = x2 then (1 : Int32) else (0 : Int32)) else (0 : Int32)))] [(.ref b), (.ref a)])) rfl (by rw [hml]; rfl) (rest := []) (lenOf pd3 rfl) rfl (by show 2 * 0 + _ ≤ _; exact Nat.le_of_eq rfl) (hb hby at_132) ?_
          intro T9 v9 L9 X9 q9
          obtain ⟨rfl, Nq9, e9⟩ := q9
          have N9 := Fr.app N8 Nq9
          show Go _ _ _ _ _ _ _ (T9.setTop (mkF m 135 #[.val (.int x1), .val (.int x2), .val (.int x3), .val (.int x4), .val (.int x5), .val (.int (x5 &&& (7 : Int32))), .val (.int zJ1_0), .val (.int zJ2_0), .val (.ref a), .val (.ref b), .val (.int (if zJ1_0 = x1 then (if zJ2_0 = x2 then (1 : Int32) else (0 : Int32)) else (0 : Int32))), .val (.int (if x1 = x1 then (if x2 = x2 then (1 : Int32) else (0 : Int32)) else (0 : Int32)))] [(.int (if zJ1_0 = x1 then (if zJ2_0 = x2 then (1 : Int32) else (0 : Int32)) else (0 : Int32)))]))
          refine Go.of (fun _ q => XS.iload X9.here hx rfl (hb hby at_135) rfl q) ?_
          show Go _ _ _ _ _ _ _ (T9.setTop (mkF m 137 #[.val (.int x1), .val (.int x2), .val (.int x3), .val (.int x4), .val (.int x5), .val (.int (x5 &&& (7 : Int32))), .val (.int zJ1_0), .val (.int zJ2_0), .val (.ref a), .val (.ref b), .val (.int (if zJ1_0 = x1 then (if zJ2_0 = x2 then (1 : Int32) else (0 : Int32)) else (0 : Int32))), .val (.int (if x1 = x1 then (if x2 = x2 then (1 : Int32) else (0 : Int32)) else (0 : Int32)))] [(.int (if zJ1_0 = x1 then (if zJ2_0 = x2 then (1 : Int32) else (0 : Int32)) else (0 : Int32))), (.int (if zJ1_0 = x1 then (if zJ2_0 = x2 then (1 : Int32) else (0 : Int32)) else (0 : Int32)))]))
          refine Go.of (fun _ q => XS.icmpNo X9.here hx rfl (hb hby at_137) rfl (teq rfl).2 q) ?_
          show Go _ _ _ _ _ _ _ (T9.setTop (mkF m 140 #[.val (.int x1), .val (.int x2), .val (.int x3), .val (.int x4), .val (.int x5), .val (.int (x5 &&& (7 : Int32))), .val (.int zJ1_0), .val (.int zJ2_0), .val (.ref a), .val (.ref b), .val (.int (if zJ1_0 = x1 then (if zJ2_0 = x2 then (1 : Int32) else (0 : Int32)) else (0 : Int32))), .val (.int (if x1 = x1 then (if x2 = x2 then (1 : Int32) else (0 : Int32)) else (0 : Int32)))] []))
          refine Go.of (fun _ q => XS.iconst X9.here hx rfl (hb hby at_140) q) ?_
          show Go _ _ _ _ _ _ _ (T9.setTop (mkF m 141 #[.val (.int x1), .val (.int x2), .val (.int x3), .val (.int x4), .val (.int x5), .val (.int (x5 &&& (7 : Int32))), .val (.int zJ1_0), .val (.int zJ2_0), .val (.ref a), .val (.ref b), .val (.int (if zJ1_0 = x1 then (if zJ2_0 = x2 then (1 : Int32) else (0 : Int32)) else (0 : Int32))), .val (.int (if x1 = x1 then (if x2 = x2 then (1 : Int32) else (0 : Int32)) else (0 : Int32)))] [(.int (1 : Int32))]))
          refine Go.of (fun _ q => XS.goto X9.here hx rfl (pc0 := 141) (pc' := 145) rfl (hb hby at_141) (by decide) (by decide) q) ?_
          show Go _ _ _ _ _ _ _ (T9.setTop (mkF m 145 #[.val (.int x1), .val (.int x2), .val (.int x3), .val (.int x4), .val (.int x5), .val (.int (x5 &&& (7 : Int32))), .val (.int zJ1_0), .val (.int zJ2_0), .val (.ref a), .val (.ref b), .val (.int (if zJ1_0 = x1 then (if zJ2_0 = x2 then (1 : Int32) else (0 : Int32)) else (0 : Int32))), .val (.int (if x1 = x1 then (if x2 = x2 then (1 : Int32) else (0 : Int32)) else (0 : Int32)))] [(.int (1 : Int32))]))
          refine Go.retN X9 hx hlk (t := .boolean) hret (by simp) (hb hby at_145) rfl (by decide) (by decide) ?_
          rw [e9]
          exact ⟨rfl, N9⟩
        by_cases c69 : zJ1_0 = x1
        · refine Go.of (fun _ q => XS.icmpNo X6.here hx rfl (hb hby at_69) rfl (teq c69).2 q) ?_
          show Go _ _ _ _ _ _ _ (T6.setTop (mkF m 72 #[.val (.int x1), .val (.int x2), .val (.int x3), .val (.int x4), .val (.int x5), .val (.int (x5 &&& (7 : Int32))), .val (.int zJ1_0), .val (.int zJ2_0), .val (.ref a), .val (.ref b), .unset, .unset] []))
          refine Go.of (fun _ q => XS.iload X6.here hx rfl (hb hby at_72) rfl q) ?_
          show Go _ _ _ _ _ _ _ (T6.setTop (mkF m 74 #[.val (.int x1), .val (.int x2), .val (.int x3), .val (.int x4), .val (.int x5), .val (.int (x5 &&& (7 : Int32))), .val (.int zJ1_0), .val (.int zJ2_0), .val (.ref a), .val (.ref b), .unset, .unset] [(.int zJ2_0)]))
          refine Go.of (fun _ q => XS.iloadN X6.here hx rfl (hb hby at_74) rfl q) ?_
          show Go _ _ _ _ _ _ _ (T6.setTop (mkF m 75 #[.val (.int x1), .val (.int x2), .val (.int x3), .val (.int x4), .val (.int x5), .val (.int (x5 &&& (7 : Int32))), .val (.int zJ1_0), .val (.int zJ2_0), .val (.ref a), .val (.ref b), .unset, .unset] [(.int x2), (.int zJ2_0)]))
          by_cases c75 : zJ2_0 = x2
          · refine Go.of (fun _ q => XS.icmpNo X6.here hx rfl (hb hby at_75) rfl (teq c75).2 q) ?_
            show Go _ _ _ _ _ _ _ (T6.setTop (mkF m 78 #[.val (.int x1), .val (.int x2), .val (.int x3), .val (.int x4), .val (.int x5), .val (.int (x5 &&& (7 : Int32))), .val (.int zJ1_0), .val (.int zJ2_0), .val (.ref a), .val (.ref b), .unset, .unset] []))
            refine Go.of (fun _ q => XS.iconst X6.here hx rfl (hb hby at_78) q) ?_
            show Go _ _ _ _ _ _ _ (T6.setTop (mkF m 79 #[.val (.int x1), .val (.int x2), .val (.int x3), .val (.int x4), .val (.int x5), .val (.int (x5 &&& (7 : Int32))), .val (.int zJ1_0), .val (.int zJ2_0), .val (.ref a), .val (.ref b), .unset, .unset] [(.int (1 : Int32))]))
            refine Go.of (fun _ q => XS.goto X6.here hx rfl (pc0 := 79) (pc' := 83) rfl (hb hby at_79) (by decide) (by decide) q) ?_
            show Go _ _ _ _ _ _ _ (T6.setTop (mkF m 83 #[.val (.int x1), .val (.int x2), .val (.int x3), .val (.int x4), .val (.int x5), .val (.int (x5 &&& (7 : Int32))), .val (.int zJ1_0), .val (.int zJ2_0), .val (.ref a), .val (.ref b), .unset, .unset] [(.int (1 : Int32))]))
            exact J7 _ (by rw [if_pos c69, if_pos c75])
          · refine Go.of (fun _ q => XS.icmpYes X6.here hx rfl (pc0 := 75) (pc' := 82) rfl (hb hby at_75) rfl (feq c75).2 (by decide) (by decide) q) ?_
            show Go _ _ _ _ _ _ _ (T6.setTop (mkF m 82 #[.val (.int x1), .val (.int x2), .val (.int x3), .val (.int x4), .val (.int x5), .val (.int (x5 &&& (7 : Int32))), .val (.int zJ1_0), .val (.int zJ2_0), .val (.ref a), .val (.ref b), .unset, .unset] []))
            refine Go.of (fun _ q => XS.iconst X6.here hx rfl (hb hby at_82) q) ?_
            show Go _ _ _ _ _ _ _ (T6.setTop (mkF m 83 #[.val (.int x1), .val (.int x2), .val (.int x3), .val (.int x4), .val (.int x5), .val (.int (x5 &&& (7 : Int32))), .val (.int zJ1_0), .val (.int zJ2_0), .val (.ref a), .val (.ref b), .unset, .unset] [(.int (0 : Int32))]))
            exact J7 _ (by rw [if_pos c69, if_neg c75])
        · refine Go.of (fun _ q => XS.icmpYes X6.here hx rfl (pc0 := 69) (pc' := 82) rfl (hb hby at_69) rfl (feq c69).2 (by decide) (by decide) q) ?_
          show Go _ _ _ _ _ _ _ (T6.setTop (mkF m 82 #[.val (.int x1), .val (.int x2), .val (.int x3), .val (.int x4), .val (.int x5), .val (.int (x5 &&& (7 : Int32))), .val (.int zJ1_0), .val (.int zJ2_0), .val (.ref a), .val (.ref b), .unset, .unset] []))
          refine Go.of (fun _ q => XS.iconst X6.here hx rfl (hb hby at_82) q) ?_
          show Go _ _ _ _ _ _ _ (T6.setTop (mkF m 83 #[.val (.int x1), .val (.int x2), .val (.int x3), .val (.int x4), .val (.int x5), .val (.int (x5 &&& (7 : Int32))), .val (.int zJ1_0), .val (.int zJ2_0), .val (.ref a), .val (.ref b), .unset, .unset] [(.int (0 : Int32))]))
          exact J7 _ (by rw [if_neg c69])
      · refine Go.of (fun _ q => XS.ifYes X4.here hx rfl (pc0 := 50) (pc' := 88) rfl (hb hby at_50) rfl ((if0 _ _).trans (feq c50).2) (by decide) (by decide) q) ?_
        show Go _ _ _ _ _ _ _ (T4.setTop (mkF m 88 #[.val (.int x1), .val (.int x2), .val (.int x3), .val (.int x4), .val (.int x5), .val (.int (x5 &&& (7 : Int32))), .val (.int zJ1_0), .val (.int zJ2_0), .val (.ref a), .unset, .unset, .unset] []))
        refine Go.of (fun _ q => XS.iload X4.here hx rfl (hb hby at_88) rfl q) ?_
        show Go _ _ _ _ _ _ _ (T4.setTop (mkF m 90 #[.val (.int x1), .val (.int x2), .val (.int x3), .val (.int x4), .val (.int x5), .val (.int (x5 &&& (7 : Int32))), .val (.int zJ1_0), .val (.int zJ2_0), .val (.ref a), .unset, .unset, .unset] [(.int x5)]))
        refine Go.of (fun _ q => XS.bipush X4.here hx rfl (hb hby at_90) q) ?_
        show Go _ _ _ _ _ _ _ (T4.setTop (mkF m 92 #[.val (.int x1), .val (.int x2), .val (.int x3), .val (.int x4), .val (.int x5), .val (.int (x5 &&& (7 : Int32))), .val (.int zJ1_0), .val (.int zJ2_0), .val (.ref a), .unset, .unset, .unset] [(.int (8 : Int32)), (.int x5)]))
        refine Go.of (fun _ q => XS.iand X4.here hx rfl (hb hby at_92) rfl q) ?_
        show Go _ _ _ _ _ _ _ (T4.setTop (mkF m 93 #[.val (.int x1), .val (.int x2), .val (.int x3), .val (.int x4), .val (.int x5), .val (.int (x5 &&& (7 : Int32))), .val (.int zJ1_0), .val (.int zJ2_0), .val (.ref a), .unset, .unset, .unset] [(.int (x5 &&& (8 : Int32)))]))
        by_cases c93 : (x5 &&& (8 : Int32)) = (0 : Int32)
        · refine Go.of (fun _ q => XS.ifYes X4.here hx rfl (pc0 := 93) (pc' := 105) rfl (hb hby at_93) rfl ((if0 _ _).trans (teq c93).1) (by decide) (by decide) q) ?_
          show Go _ _ _ _ _ _ _ (T4.setTop (mkF m 105 #[.val (.int x1), .val (.int x2), .val (.int x3), .val (.int x4), .val (.int x5), .val (.int (x5 &&& (7 : Int32))), .val (.int zJ1_0), .val (.int zJ2_0), .val (.ref a), .unset, .unset, .unset] []))
          refine Go.of (fun _ q => XS.iloadN X4.here hx rfl (hb hby at_105) rfl q) ?_
          show Go _ _ _ _ _ _ _ (T4.setTop (mkF m 106 #[.val (.int x1), .val (.int x2), .val (.int x3), .val (.int x4), .val (.int x5), .val (.int (x5 &&& (7 : Int32))), .val (.int zJ1_0), .val (.int zJ2_0), .val (.ref a), .unset, .unset, .unset] [(.int x1)]))
          refine Go.static X4 hx hZ (y := (⟨"java/lang/Integer", "valueOf", "(I)Ljava/lang/Integer;"⟩ : MethodName)) (argsL := [(.int x1)]) hown (hw _ (List.mem_of_getElem? (i := 25) rfl)) (hw _ (List.mem_of_getElem? (i := 26) rfl)) (hw _ (List.mem_of_getElem? (i := 27) rfl)) (hw _ (List.mem_of_getElem? (i := 28) rfl)) (by decide) 0 rfl (rm5 l Z a0 hw x1 ca cc T4.heap n0 Zs Od Shi Sca Bx) (by decide) (by decide) (by decide) (by decide) (g := (mkF m 106 #[.val (.int x1), .val (.int x2), .val (.int x3), .val (.int x4), .val (.int x5), .val (.int (x5 &&& (7 : Int32))), .val (.int zJ1_0), .val (.int zJ2_0), .val (.ref a), .unset, .unset, .unset] [(.int x1)])) rfl (by rw [hml]; rfl) (rest := []) (lenOf pd4 rfl) rfl (by show 2 * 0 + _ ≤ _; exact Nat.le_of_eq rfl) (hb hby at_106) ?_
          intro T10 v10 L10 X10 q10
          obtain ⟨bi, rfl, Nq10, K10, f10_0⟩ := q10
          have N10 := Fr.app N4 Nq10
          have Zs := Nat.le_trans Zs K10.1
          have Kp := Kp.trans K10 all0
          have Od := Od.keep K10 all0
          have E_a := E_a.keep K10
          have F_a_line := F_a_line.keep K10 nin0
          have F_a_column := F_a_column.keep K10 nin0
          have E_bi := f10_0
          show Go _ _ _ _ _ _ _ (T10.setTop (mkF m 109 #[.val (.int x1), .val (.int x2), .val (.int x3), .val (.int x4), .val (.int x5), .val (.int (x5 &&& (7 : Int32))), .val (.int zJ1_0), .val (.int zJ2_0), .val (.ref a), .unset, .unset, .unset] [(.ref bi)]))
          refine Go.of (fun _ q => XS.astore X10.here hx rfl (hb hby at_109) rfl rfl (l' := #[.val (.int x1), .val (.int x2), .val (.int x3), .val (.int x4), .val (.int x5), .val (.int (x5 &&& (7 : Int32))), .val (.int zJ1_0), .val (.int zJ2_0), .val (.ref a), .val (.ref bi), .unset, .unset]) rfl q) ?_
          show Go _ _ _ _ _ _ _ (T10.setTop (mkF m 111 #[.val (.int x1), .val (.int x2), .val (.int x3), .val (.int x4), .val (.int x5), .val (.int (x5 &&& (7 : Int32))), .val (.int zJ1_0), .val (.int zJ2_0), .val (.ref a), .val (.ref bi), .unset, .unset] []))
          refine Go.of (fun _ q => XS.iconst X10.here hx rfl (hb hby at_111) q) ?_
          show Go _ _ _ _ _ _ _ (T10.setTop (mkF m 112 #[.val (.int x1), .val (.int x2), .val (.int x3), .val (.int x4), .val (.int x5), .val (.int (x5 &&& (7 : Int32))), .val (.int zJ1_0), .val (.int zJ2_0), .val (.ref a), .val (.ref bi), .unset, .unset] [(.int (0 : Int32))]))
          refine Go.of (fun _ q => XS.istore X10.here hx rfl (hb hby at_112) rfl (l' := #[.val (.int x1), .val (.int x2), .val (.int x3), .val (.int x4), .val (.int x5), .val (.int (x5 &&& (7 : Int32))), .val (.int zJ1_0), .val (.int zJ2_0), .val (.ref a), .val (.ref bi), .val (.int (0 : Int32)), .unset]) rfl q) ?_
          show Go _ _ _ _ _ _ _ (T10.setTop (mkF m 114 #[.val (.int x1), .val (.int x2), .val (.int x3), .val (.int x4), .val (.int x5), .val (.int (x5 &&& (7 : Int32))), .val (.int zJ1_0), .val (.int zJ2_0), .val (.ref a), .val (.ref bi), .val (.int (0 : Int32)), .unset] []))
          refine Go.of (fun _ q => XS.aload X10.here hx rfl (hb hby at_114) rfl rfl q) ?_
          show Go _ _ _ _ _ _ _ (T10.setTop (mkF m 116 #[.val (.int x1), .val (.int x2), .val (.int x3), .val (.int x4), .val (.int x5), .val (.int (x5 &&& (7 : Int32))), .val (.int zJ1_0), .val (.int zJ2_0), .val (.ref a), .val (.ref bi), .val (.int (0 : Int32)), .unset] [(.ref a)]))
          refine Go.of (fun _ q => XS.aload X10.here hx rfl (hb hby at_116) rfl rfl q) ?_
          show Go _ _ _ _ _ _ _ (T10.setTop (mkF m 118 #[.val (.int x1), .val (.int x2), .val (.int x3), .val (.int x4), .val (.int x5), .val (.int (x5 &&& (7 : Int32))), .val (.int zJ1_0), .val (.int zJ2_0), .val (.ref a), .val (.ref bi), .val (.int (0 : Int32)), .unset] [(.ref a), (.ref a)]))
          refine Go.virtual X10 hx hZ (y := (⟨"com/example/quillon/quillon/roost/Position", "equals", "(Ljava/lang/Object;)Z"⟩ : MethodName)) (z := (⟨"com/example/quillon/quillon/roost/Position", "equals", "(Ljava/lang/Object;)Z"⟩ : MethodName)) (a := a) (argsL := [(.ref a)]) hown (hw _ (List.mem_of_getElem? (i := 18) rfl)) (hw _ (List.mem_of_getElem? (i := 19) rfl)) (notFace_of_selects (args := #[]) (mvT hZ (hw _ (List.mem_of_getElem? (i := 21) rfl)))) (hw _ (List.mem_of_getElem? (i := 21) rfl)) (hw _ (List.mem_of_getElem? (i := 20) rfl)) (hw _ (List.mem_of_getElem? (i := 2) rfl)) (hw _ (List.mem_of_getElem? (i := 22) rfl)) (by decide) 0 rfl E_a (rm4_P l Z a0 hw a a x1 x2 x1 x2 T10.heap n0 Zs F_a_line F_a_column E_a F_a_line F_a_column) (by decide) (by decide) (by decide) (by decide) (g := (mkF m 118 #[.val (.int x1), .val (.int x2), .val (.int x3), .val (.int x4), .val (.int x5), .val (.int (x5 &&& (7 : Int32))), .val (.int zJ1_0), .val (.int zJ2_0), .val (.ref a), .val (.ref bi), .val (.int (0 : Int32)), .unset] [(.ref a), (.ref a)])) rfl (by rw [hml]; rfl) (rest := []) (lenOf pd3 rfl) rfl (by show 2 * 0 + _ ≤ _; exact Nat.le_of_eq rfl) (hb hby at_118) ?_
          intro T11 v11 L11 X11 q11
          obtain ⟨rfl, Nq11, e11⟩ := q11
          have N11 := Fr.app N10 Nq11
          show Go _ _ _ _ _ _ _ (T11.setTop (mkF m 121 #[.val (.int x1), .val (.int x2), .val (.int x3), .val (.int x4), .val (.int x5), .val (.int (x5 &&& (7 : Int32))), .val (.int zJ1_0), .val (.int zJ2_0), .val (.ref a), .val (.ref bi), .val (.int (0 : Int32)), .unset] [(.int (if x1 = x1 then (if x2 = x2 then (1 : Int32) else (0 : Int32)) else (0 : Int32)))]))
          refine Go.of (fun _ q => XS.istore X11.here hx rfl (hb hby at_121) rfl (l' := #[.val (.int x1), .val (.int x2), .val (.int x3), .val (.int x4), .val (.int x5), .val (.int (x5 &&& (7 : Int32))), .val (.int zJ1_0), .val (.int zJ2_0), .val (.ref a), .val (.ref bi), .val (.int (0 : Int32)), .val (.int (if x1 = x1 then (if x2 = x2 then (1 : Int32) else (0 : Int32)) else (0 : Int32)))]) rfl q) ?_
          show Go _ _ _ _ _ _ _ (T11.setTop (mkF m 123 #[.val (.int x1), .val (.int x2), .val (.int x3), .val (.int x4), .val (.int x5), .val (.int (x5 &&& (7 : Int32))), .val (.int zJ1_0), .val (.int zJ2_0), .val (.ref a), .val (.ref bi), .val (.int (0 : Int32)), .val (.int (if x1 = x1 then (if x2 = x2 then (1 : Int32) else (0 : Int32)) else (0 : Int32)))] []))
          refine Go.of (fun _ q => XS.iload X11.here hx rfl (hb hby at_123) rfl q) ?_
          show Go _ _ _ _ _ _ _ (T11.setTop (mkF m 125 #[.val (.int x1), .val (.int x2), .val (.int x3), .val (.int x4), .val (.int x5), .val (.int (x5 &&& (7 : Int32))), .val (.int zJ1_0), .val (.int zJ2_0), .val (.ref a), .val (.ref bi), .val (.int (0 : Int32)), .val (.int (if x1 = x1 then (if x2 = x2 then (1 : Int32) else (0 : Int32)) else (0 : Int32)))] [(.int (if x1 = x1 then (if x2 = x2 then (1 : Int32) else (0 : Int32)) else (0 : Int32)))]))
          refine Go.of (fun _ q => XS.ifNo X11.here hx rfl (hb hby at_125) rfl ((if0 _ _).trans (feq (by simp)).1) q) ?_
          show Go _ _ _ _ _ _ _ (T11.setTop (mkF m 128 #[.val (.int x1), .val (.int x2), .val (.int x3), .val (.int x4), .val (.int x5), .val (.int (x5 &&& (7 : Int32))), .val (.int zJ1_0), .val (.int zJ2_0), .val (.ref a), .val (.ref bi), .val (.int (0 : Int32)), .val (.int (if x1 = x1 then (if x2 = x2 then (1 : Int32) else (0 : Int32)) else (0 : Int32)))] []))
          refine Go.of (fun _ q => XS.aload X11.here hx rfl (hb hby at_128) rfl rfl q) ?_
          show Go _ _ _ _ _ _ _ (T11.setTop (mkF m 130 #[.val (.int x1), .val (.int x2), .val (.int x3), .val (.int x4), .val (.int x5), .val (.int (x5 &&& (7 : Int32))), .val (.int zJ1_0), .val (.int zJ2_0), .val (.ref a), .val (.ref bi), .val (.int (0 : Int32)), .val (.int (if x1 = x1 then (if x2 = x2 then (1 : Int32) else (0 : Int32)) else (0 : Int32)))] [(.ref a)]))
          refine Go.of (fun _ q => XS.aload X11.here hx rfl (hb hby at_130) rfl rfl q) ?_
          show Go _ _ _ _ _ _ _ (T11.setTop (mkF m 132 #[.val (.int x1), .val (.int x2), .val (.int x3), .val (.int x4), .val (.int x5), .val (.int (x5 &&& (7 : Int32))), .val (.int zJ1_0), .val (.int zJ2_0), .val (.ref a), .val (.ref bi), .val (.int (0 : Int32)), .val (.int (if x1 = x1 then (if x2 = x2 then (1 : Int32) else (0 : Int32)) else (0 : Int32)))] [(.ref bi), (.ref a)]))
          refine Go.virtual X11 hx hZ (y := (⟨"com/example/quillon/quillon/roost/Position", "equals", "(Ljava/lang/Object;)Z"⟩ : MethodName)) (z := (⟨"com/example/quillon/quillon/roost/Position", "equals", "(Ljava/lang/Object;)Z"⟩ : MethodName)) (a := a) (argsL := [(.ref bi)]) hown (hw _ (List.mem_of_getElem? (i := 18) rfl)) (hw _ (List.mem_of_getElem? (i := 19) rfl)) (notFace_of_selects (args := #[]) (mvT hZ (hw _ (List.mem_of_getElem? (i := 21) rfl)))) (hw _ (List.mem_of_getElem? (i := 21) rfl)) (hw _ (List.mem_of_getElem? (i := 20) rfl)) (hw _ (List.mem_of_getElem? (i := 2) rfl)) (hw _ (List.mem_of_getElem? (i := 22) rfl)) (by decide) 0 e11 E_a (rm4_I l Z a0 hw a bi T10.heap n0 Zs E_bi) (by decide) (by decide) (by decide) (by decide) (g := (mkF m 132 #[.val (.int x1), .val (.int x2), .val (.int x3), .val (.int x4), .val (.int x5), .val (.int (x5 &&& (7 : Int32))), .val (.int zJ1_0), .val (.int zJ2_0), .val (.ref a), .val (.ref bi), .val (.int (0 : Int32)), .val (.int (if x1 = x1 then (if x2 = x2 then (1 : Int32) else (0 : Int32)) else (0 : Int32)))] [(.ref bi), (.ref a)])) rfl (by rw [hml]; rfl) (rest := []) (lenOf pd3 rfl) rfl (by show 2 * 0 + _ ≤ _; exact Nat.le_of_eq rfl) (hb hby at_132) ?_
          intro T12 v12 L12 X12 q12
          obtain ⟨rfl, Nq12, e12⟩ := q12
          have N12 := Fr.app N11 Nq12
          show Go _ _ _ _ _ _ _ (T12.setTop (mkF m 135 #[.val (.int x1), .val (.int x2), .val (.int x3), .val (.int x4), .val (.int x5), .val (.int (x5 &&& (7 : Int32))), .val (.int zJ1_0), .val (.int zJ2_0), .val (.ref a), .val (.ref bi), .val (.int (0 : Int32)), .val (.int (if x1 = x1 then (if x2 = x2 then (1 : Int32) else (0 : Int32)) else (0 : Int32)))] [(.int (0 : Int32))]))
          refine Go.of (fun _ q => XS.iload X12.here hx rfl (hb hby at_135) rfl q) ?_
          show Go _ _ _ _ _ _ _ (T12.setTop (mkF m 137 #[.val (.int x1), .val (.int x2), .val (.int x3), .val (.int x4), .val (.int x5), .val (.int (x5 &&& (7 : Int32))), .val (.int zJ1_0), .val (.int zJ2_0), .val (.ref a), .val (.ref bi), .val (.int (0 : Int32)), .val (.int (if x1 = x1 then (if x2 = x2 then (1 : Int32) else (0 : Int32)) else (0 : Int32)))] [(.int (0 : Int32)), (.int (0 : Int32))]))
          refine Go.of (fun _ q => XS.icmpNo X12.here hx rfl (hb hby at_137) rfl (teq rfl).2 q) ?_
          show Go _ _ _ _ _ _ _ (T12.setTop (mkF m 140 #[.val (.int x1), .val (.int x2), .val (.int x3), .val (.int x4), .val (.int x5), .val (.int (x5 &&& (7 : Int32))), .val (.int zJ1_0), .val (.int zJ2_0), .val (.ref a), .val (.ref bi), .val (.int (0 : Int32)), .val (.int (if x1 = x1 then (if x2 = x2 then (1 : Int32) else (0 : Int32)) else (0 : Int32)))] []))
          refine Go.of (fun _ q => XS.iconst X12.here hx rfl (hb hby at_140) q) ?_
          show Go _ _ _ _ _ _ _ (T12.setTop (mkF m 141 #[.val (.int x1), .val (.int x2), .val (.int x3), .val (.int x4), .val (.int x5), .val (.int (x5 &&& (7 : Int32))), .val (.int zJ1_0), .val (.int zJ2_0), .val (.ref a), .val (.ref bi), .val (.int (0 : Int32)), .val (.int (if x1 = x1 then (if x2 = x2 then (1 : Int32) else (0 : Int32)) else (0 : Int32)))] [(.int (1 : Int32))]))
          refine Go.of (fun _ q => XS.goto X12.here hx rfl (pc0 := 141) (pc' := 145) rfl (hb hby at_141) (by decide) (by decide) q) ?_
          show Go _ _ _ _ _ _ _ (T12.setTop (mkF m 145 #[.val (.int x1), .val (.int x2), .val (.int x3), .val (.int x4), .val (.int x5), .val (.int (x5 &&& (7 : Int32))), .val (.int zJ1_0), .val (.int zJ2_0), .val (.ref a), .val (.ref bi), .val (.int (0 : Int32)), .val (.int (if x1 = x1 then (if x2 = x2 then (1 : Int32) else (0 : Int32)) else (0 : Int32)))] [(.int (1 : Int32))]))
          refine Go.retN X12 hx hlk (t := .boolean) hret (by simp) (hb hby at_145) rfl (by decide) (by decide) ?_
          rw [e12]
          exact ⟨rfl, N12⟩
        · refine Go.of (fun _ q => XS.ifNo X4.here hx rfl (hb hby at_93) rfl ((if0 _ _).trans (feq c93).1) q) ?_
          show Go _ _ _ _ _ _ _ (T4.setTop (mkF m 96 #[.val (.int x1), .val (.int x2), .val (.int x3), .val (.int x4), .val (.int x5), .val (.int (x5 &&& (7 : Int32))), .val (.int zJ1_0), .val (.int zJ2_0), .val (.ref a), .unset, .unset, .unset] []))
          refine Go.of (fun _ q => XS.aconstNull X4.here hx rfl (hb hby at_96) q) ?_
          show Go _ _ _ _ _ _ _ (T4.setTop (mkF m 97 #[.val (.int x1), .val (.int x2), .val (.int x3), .val (.int x4), .val (.int x5), .val (.int (x5 &&& (7 : Int32))), .val (.int zJ1_0), .val (.int zJ2_0), .val (.ref a), .unset, .unset, .unset] [.null]))
          refine Go.of (fun _ q => XS.astore X4.here hx rfl (hb hby at_97) rfl rfl (l' := #[.val (.int x1), .val (.int x2), .val (.int x3), .val (.int x4), .val (.int x5), .val (.int (x5 &&& (7 : Int32))), .val (.int zJ1_0), .val (.int zJ2_0), .val (.ref a), .val .null, .unset, .unset]) rfl q) ?_
          show Go _ _ _ _ _ _ _ (T4.setTop (mkF m 99 #[.val (.int x1), .val (.int x2), .val (.int x3), .val (.int x4), .val (.int x5), .val (.int (x5 &&& (7 : Int32))), .val (.int zJ1_0), .val (.int zJ2_0), .val (.ref a), .val .null, .unset, .unset] []))
          refine Go.of (fun _ q => XS.iconst X4.here hx rfl (hb hby at_99) q) ?_
          show Go _ _ _ _ _ _ _ (T4.setTop (mkF m 100 #[.val (.int x1), .val (.int x2), .val (.int x3), .val (.int x4), .val (.int x5), .val (.int (x5 &&& (7 : Int32))), .val (.int zJ1_0), .val (.int zJ2_0), .val (.ref a), .val .null, .unset, .unset] [(.int (0 : Int32))]))
          refine Go.of (fun _ q => XS.istore X4.here hx rfl (hb hby at_100) rfl (l' := #[.val (.int x1), .val (.int x2), .val (.int x3), .val (.int x4), .val (.int x5), .val (.int (x5 &&& (7 : Int32))), .val (.int zJ1_0), .val (.int zJ2_0), .val (.ref a), .val .null, .val (.int (0 : Int32)), .unset]) rfl q) ?_
          show Go _ _ _ _ _ _ _ (T4.setTop (mkF m 102 #[.val (.int x1), .val (.int x2), .val (.int x3), .val (.int x4), .val (.int x5), .val (.int (x5 &&& (7 : Int32))), .val (.int zJ1_0), .val (.int zJ2_0), .val (.ref a), .val .null, .val (.int (0 : Int32)), .unset] []))
          refine Go.of (fun _ q => XS.goto X4.here hx rfl (pc0 := 102) (pc' := 114) rfl (hb hby at_102) (by decide) (by decide) q) ?_
          show Go _ _ _ _ _ _ _ (T4.setTop (mkF m 114 #[.val (.int x1), .val (.int x2), .val (.int x3), .val (.int x4), .val (.int x5), .val (.int (x5 &&& (7 : Int32))), .val (.int zJ1_0), .val (.int zJ2_0), .val (.ref a), .val .null, .val (.int (0 : Int32)), .unset] []))
          refine Go.of (fun _ q => XS.aload X4.here hx rfl (hb hby at_114) rfl rfl q) ?_
          show Go _ _ _ _ _ _ _ (T4.setTop (mkF m 116 #[.val (.int x1), .val (.int x2), .val (.int x3), .val (.int x4), .val (.int x5), .val (.int (x5 &&& (7 : Int32))), .val (.int zJ1_0), .val (.int zJ2_0), .val (.ref a), .val .null, .val (.int (0 : Int32)), .unset] [(.ref a)]))
          refine Go.of (fun _ q => XS.aload X4.here hx rfl (hb hby at_116) rfl rfl q) ?_
          show Go _ _ _ _ _ _ _ (T4.setTop (mkF m 118 #[.val (.int x1), .val (.int x2), .val (.int x3), .val (.int x4), .val (.int x5), .val (.int (x5 &&& (7 : Int32))), .val (.int zJ1_0), .val (.int zJ2_0), .val (.ref a), .val .null, .val (.int (0 : Int32)), .unset] [(.ref a), (.ref a)]))
          refine Go.virtual X4 hx hZ (y := (⟨"com/example/quillon/quillon/roost/Position", "equals", "(Ljava/lang/Object;)Z"⟩ : MethodName)) (z := (⟨"com/example/quillon/quillon/roost/Position", "equals", "(Ljava/lang/Object;)Z"⟩ : MethodName)) (a := a) (argsL := [(.ref a)]) hown (hw _ (List.mem_of_getElem? (i := 18) rfl)) (hw _ (List.mem_of_getElem? (i := 19) rfl)) (notFace_of_selects (args := #[]) (mvT hZ (hw _ (List.mem_of_getElem? (i := 21) rfl)))) (hw _ (List.mem_of_getElem? (i := 21) rfl)) (hw _ (List.mem_of_getElem? (i := 20) rfl)) (hw _ (List.mem_of_getElem? (i := 2) rfl)) (hw _ (List.mem_of_getElem? (i := 22) rfl)) (by decide) 0 rfl E_a (rm4_P l Z a0 hw a a x1 x2 x1 x2 T4.heap n0 Zs F_a_line F_a_column E_a F_a_line F_a_column) (by decide) (by decide) (by decide) (by decide) (g := (mkF m 118 #[.val (.int x1), .val (.int x2), .val (.int x3), .val (.int x4), .val (.int x5), .val (.int (x5 &&& (7 : Int32))), .val (.int zJ1_0), .val (.int zJ2_0), .val (.ref a), .val .null, .val (.int (0 : Int32)), .unset] [(.ref a), (.ref a)])) rfl (by rw [hml]; rfl) (rest := []) (lenOf pd3 rfl) rfl (by show 2 * 0 + _ ≤ _; exact Nat.le_of_eq rfl) (hb hby at_118) ?_
          intro T13 v13 L13 X13 q13
          obtain ⟨rfl, Nq13, e13⟩ := q13
          have N13 := Fr.app N4 Nq13
          show Go _ _ _ _ _ _ _ (T13.setTop (mkF m 121 #[.val (.int x1), .val (.int x2), .val (.int x3), .val (.int x4), .val (.int x5), .val (.int (x5 &&& (7 : Int32))), .val (.int zJ1_0), .val (.int zJ2_0), .val (.ref a), .val .null, .val (.int (0 : Int32)), .unset] [(.int (if x1 = x1 then (if x2 = x2 then (1 : Int32) else (0 : Int32)) else (0 : Int32)))]))
          refine Go.of (fun _ q => XS.istore X13.here hx rfl (hb hby at_121) rfl (l' := #[.val (.int x1), .val (.int x2), .val (.int x3), .val (.int x4), .val (.int x5), .val (.int (x5 &&& (7 : Int32))), .val (.int zJ1_0), .val (.int zJ2_0), .val (.ref a), .val .null, .val (.int (0 : Int32)), .val (.int (if x1 = x1 then (if x2 = x2 then (1 : Int32) else (0 : Int32)) else (0 : Int32)))]) rfl q) ?_
          show Go _ _ _ _ _ _ _ (T13.setTop (mkF m 123 #[.val (.int x1), .val (.int x2), .val (.int x3), .val (.int x4), .val (.int x5), .val (.int (x5 &&& (7 : Int32))), .val (.int zJ1_0), .val (.int zJ2_0), .val (.ref a), .val .null, .val (.int (0 : Int32)), .val (.int (if x1 = x1 then (if x2 = x2 then (1 : Int32) else (0 : Int32)) else (0 : Int32)))] []))
          refine Go.of (fun _ q => XS.iload X13.here hx rfl (hb hby at_123) rfl q) ?_
          show Go _ _ _ _ _ _ _ (T13.setTop (mkF m 125 #[.val (.int x1), .val (.int x2), .val (.int x3), .val (.int x4), .val (.int x5), .val (.int (x5 &&& (7 : Int32))), .val (.int zJ1_0), .val (.int zJ2_0), .val (.ref a), .val .null, .val (.int (0 : Int32)), .val (.int (if x1 = x1 then (if x2 = x2 then (1 : Int32) else (0 : Int32)) else (0 : Int32)))] [(.int (if x1 = x1 then (if x2 = x2 then (1 : Int32) else (0 : Int32)) else (0 : Int32)))]))
          refine Go.of (fun _ q => XS.ifNo X13.here hx rfl (hb hby at_125) rfl ((if0 _ _).trans (feq (by simp)).1) q) ?_
          show Go _ _ _ _ _ _ _ (T13.setTop (mkF m 128 #[.val (.int x1), .val (.int x2), .val (.int x3), .val (.int x4), .val (.int x5), .val (.int (x5 &&& (7 : Int32))), .val (.int zJ1_0), .val (.int zJ2_0), .val (.ref a), .val .null, .val (.int (0 : Int32)), .val (.int (if x1 = x1 then (if x2 = x2 then (1 : Int32) else (0 : Int32)) else (0 : Int32)))] []))
          refine Go.of (fun _ q => XS.aload X13.here hx rfl (hb hby at_128) rfl rfl q) ?_
          show Go _ _ _ _ _ _ _ (T13.setTop (mkF m 130 #[.val (.int x1), .val (.int x2), .val (.int x3), .val (.int x4), .val (.int x5), .val (.int (x5 &&& (7 : Int32))), .val (.int zJ1_0), .val (.int zJ2_0), .val (.ref a), .val .null, .val (.int (0 : Int32)), .val (.int (if x1 = x1 then (if x2 = x2 then (1 : Int32) else (0 : Int32)) else (0 : Int32)))] [(.ref a)]))
          refine Go.of (fun _ q => XS.aload X13.here hx rfl (hb hby at_130) rfl rfl q) ?_
          show Go _ _ _ _ _ _ _ (T13.setTop (mkF m 132 #[.val (.int x1), .val (.int x2), .val (.int x3), .val (.int x4), .val (.int x5), .val (.int (x5 &&& (7 : Int32))), .val (.int zJ1_0), .val (.int zJ2_0), .val (.ref a), .val .null, .val (.int (0 : Int32)), .val (.int (if x1 = x1 then (if x2 = x2 then (1 : Int32) else (0 : Int32)) else (0 : Int32)))] [.null, (.ref a)]))
          refine Go.virtual X13 hx hZ (y := (⟨"com/example/quillon/quillon/roost/Position", "equals", "(Ljava/lang/Object;)Z"⟩ : MethodName)) (z := (⟨"com/example/quillon/quillon/roost/Position", "equals", "(Ljava/lang/Object;)Z"⟩ : MethodName)) (a := a) (argsL := [.null]) hown (hw _ (List.mem_of_getElem? (i := 18) rfl)) (hw _ (List.mem_of_getElem? (i := 19) rfl)) (notFace_of_selects (args := #[]) (mvT hZ (hw _ (List.mem_of_getElem? (i := 21) rfl)))) (hw _ (List.mem_of_getElem? (i := 21) rfl)) (hw _ (List.mem_of_getElem? (i := 20) rfl)) (hw _ (List.mem_of_getElem? (i := 2) rfl)) (hw _ (List.mem_of_getElem? (i := 22) rfl)) (by decide) 0 e13 E_a (rm4_N l Z a0 hw a T4.heap n0 Zs ) (by decide) (by decide) (by decide) (by decide) (g := (mkF m 132 #[.val (.int x1), .val (.int x2), .val (.int x3), .val (.int x4), .val (.int x5), .val (.int (x5 &&& (7 : Int32))), .val (.int zJ1_0), .val (.int zJ2_0), .val (.ref a), .val .null, .val (.int (0 : Int32)), .val (.int (if x1 = x1 then (if x2 = x2 then (1 : Int32) else (0 : Int32)) else (0 : Int32)))] [.null, (.ref a)])) rfl (by rw [hml]; rfl) (rest := []) (lenOf pd3 rfl) rfl (by show 2 * 0 + _ ≤ _; exact Nat.le_of_eq rfl) (hb hby at_132) ?_
          intro T14 v14 L14 X14 q14
          obtain ⟨rfl, Nq14, e14⟩ := q14
          have N14 := Fr.app N13 Nq14
          show Go _ _ _ _ _ _ _ (T14.setTop (mkF m 135 #[.val (.int x1), .val (.int x2), .val (.int x3), .val (.int x4), .val (.int x5), .val (.int (x5 &&& (7 : Int32))), .val (.int zJ1_0), .val (.int zJ2_0), .val (.ref a), .val .null, .val (.int (0 : Int32)), .val (.int (if x1 = x1 then (if x2 = x2 then (1 : Int32) else (0 : Int32)) else (0 : Int32)))] [(.int (0 : Int32))]))
          refine Go.of (fun _ q => XS.iload X14.here hx rfl (hb hby at_135) rfl q) ?_
          show Go _ _ _ _ _ _ _ (T14.setTop (mkF m 137 #[.val (.int x1), .val (.int x2), .val (.int x3), .val (.int x4), .val (.int x5), .val (.int (x5 &&& (7 : Int32))), .val (.int zJ1_0), .val (.int zJ2_0), .val (.ref a), .val .null, .val (.int (0 : Int32)), .val (.int (if x1 = x1 then (if x2 = x2 then (1 : Int32) else (0 : Int32)) else (0 : Int32)))] [(.int (0 : Int32)), (.int (0 : Int32))]))
          refine Go.of (fun _ q => XS.icmpNo X14.here hx rfl (hb hby at_137) rfl (teq rfl).2 q) ?_
          show Go _ _ _ _ _ _ _ (T14.setTop (mkF m 140 #[.val (.int x1), .val (.int x2), .val (.int x3), .val (.int x4), .val (.int x5), .val (.int (x5 &&& (7 : Int32))), .val (.int zJ1_0), .val (.int zJ2_0), .val (.ref a), .val .null, .val (.int (0 : Int32)), .val (.int (if x1 = x1 then (if x2 = x2 then (1 : Int32) else (0 : Int32)) else (0 : Int32)))] []))
          refine Go.of (fun _ q => XS.iconst X14.here hx rfl (hb hby at_140) q) ?_
          show Go _ _ _ _ _ _ _ (T14.setTop (mkF m 141 #[.val (.int x1), .val (.int x2), .val (.int x3), .val (.int x4), .val (.int x5), .val (.int (x5 &&& (7 : Int32))), .val (.int zJ1_0), .val (.int zJ2_0), .val (.ref a), .val .null, .val (.int (0 : Int32)), .val (.int (if x1 = x1 then (if x2 = x2 then (1 : Int32) else (0 : Int32)) else (0 : Int32)))] [(.int (1 : Int32))]))
          refine Go.of (fun _ q => XS.goto X14.here hx rfl (pc0 := 141) (pc' := 145) rfl (hb hby at_141) (by decide) (by decide) q) ?_
          show Go _ _ _ _ _ _ _ (T14.setTop (mkF m 145 #[.val (.int x1), .val (.int x2), .val (.int x3), .val (.int x4), .val (.int x5), .val (.int (x5 &&& (7 : Int32))), .val (.int zJ1_0), .val (.int zJ2_0), .val (.ref a), .val .null, .val (.int (0 : Int32)), .val (.int (if x1 = x1 then (if x2 = x2 then (1 : Int32) else (0 : Int32)) else (0 : Int32)))] [(.int (1 : Int32))]))
          refine Go.retN X14 hx hlk (t := .boolean) hret (by simp) (hb hby at_145) rfl (by decide) (by decide) ?_
          rw [e14]
          exact ⟨rfl, N14⟩
    by_cases c25 : ((x5 &&& (7 : Int32)) &&& (2 : Int32)) = (0 : Int32)
    · refine Go.of (fun _ q => XS.ifYes X0.here hx rfl (pc0 := 25) (pc' := 32) rfl (hb hby at_25) rfl ((if0 _ _).trans (teq c25).1) (by decide) (by decide) q) ?_
      show Go _ _ _ _ _ _ _ (s₁.setTop (mkF m 32 #[.val (.int x1), .val (.int x2), .val (.int x3), .val (.int x4), .val (.int x5), .val (.int (x5 &&& (7 : Int32))), .val (.int zJ1_0), .unset, .unset, .unset, .unset, .unset] []))
      refine Go.of (fun _ q => XS.iloadN X0.here hx rfl (hb hby at_32) rfl q) ?_
      show Go _ _ _ _ _ _ _ (s₁.setTop (mkF m 33 #[.val (.int x1), .val (.int x2), .val (.int x3), .val (.int x4), .val (.int x5), .val (.int (x5 &&& (7 : Int32))), .val (.int zJ1_0), .unset, .unset, .unset, .unset, .unset] [(.int x4)]))
      exact J2 _ (by rw [if_pos c25])
    · refine Go.of (fun _ q => XS.ifNo X0.here hx rfl (hb hby at_25) rfl ((if0 _ _).trans (feq c25).1) q) ?_
      show Go _ _ _ _ _ _ _ (s₁.setTop (mkF m 28 #[.val (.int x1), .val (.int x2), .val (.int x3), .val (.int x4), .val (.int x5), .val (.int (x5 &&& (7 : Int32))), .val (.int zJ1_0), .unset, .unset, .unset, .unset, .unset] []))
      refine Go.of (fun _ q => XS.iloadN X0.here hx rfl (hb hby at_28) rfl q) ?_
      show Go _ _ _ _ _ _ _ (s₁.setTop (mkF m 29 #[.val (.int x1), .val (.int x2), .val (.int x3), .val (.int x4), .val (.int x5), .val (.int (x5 &&& (7 : Int32))), .val (.int zJ1_0), .unset, .unset, .unset, .unset, .unset] [(.int x2)]))
      refine Go.of (fun _ q => XS.goto X0.here hx rfl (pc0 := 29) (pc' := 33) rfl (hb hby at_29) (by decide) (by decide) q) ?_
      show Go _ _ _ _ _ _ _ (s₁.setTop (mkF m 33 #[.val (.int x1), .val (.int x2), .val (.int x3), .val (.int x4), .val (.int x5), .val (.int (x5 &&& (7 : Int32))), .val (.int zJ1_0), .unset, .unset, .unset, .unset, .unset] [(.int x2)]))
      exact J2 _ (by rw [if_neg c25])
  by_cases c11 : ((x5 &&& (7 : Int32)) &&& (1 : Int32)) = (0 : Int32)
  · refine Go.of (fun _ q => XS.ifYes X0.here hx rfl (pc0 := 11) (pc' := 18) rfl (hb hby at_11) rfl ((if0 _ _).trans (teq c11).1) (by decide) (by decide) q) ?_
    show Go _ _ _ _ _ _ _ (s₁.setTop (mkF m 18 #[.val (.int x1), .val (.int x2), .val (.int x3), .val (.int x4), .val (.int x5), .val (.int (x5 &&& (7 : Int32))), .unset, .unset, .unset, .unset, .unset, .unset] []))
    refine Go.of (fun _ q => XS.iloadN X0.here hx rfl (hb hby at_18) rfl q) ?_
    show Go _ _ _ _ _ _ _ (s₁.setTop (mkF m 19 #[.val (.int x1), .val (.int x2), .val (.int x3), .val (.int x4), .val (.int x5), .val (.int (x5 &&& (7 : Int32))), .unset, .unset, .unset, .unset, .unset, .unset] [(.int x3)]))
    exact J1 _ (by rw [if_pos c11])
  · refine Go.of (fun _ q => XS.ifNo X0.here hx rfl (hb hby at_11) rfl ((if0 _ _).trans (feq c11).1) q) ?_
    show Go _ _ _ _ _ _ _ (s₁.setTop (mkF m 14 #[.val (.int x1), .val (.int x2), .val (.int x3), .val (.int x4), .val (.int x5), .val (.int (x5 &&& (7 : Int32))), .unset, .unset, .unset, .unset, .unset, .unset] []))
    refine Go.of (fun _ q => XS.iloadN X0.here hx rfl (hb hby at_14) rfl q) ?_
    show Go _ _ _ _ _ _ _ (s₁.setTop (mkF m 15 #[.val (.int x1), .val (.int x2), .val (.int x3), .val (.int x4), .val (.int x5), .val (.int (x5 &&& (7 : Int32))), .unset, .unset, .unset, .unset, .unset, .unset] [(.int x1)]))
    refine Go.of (fun _ q => XS.goto X0.here hx rfl (pc0 := 15) (pc' := 19) rfl (hb hby at_15) (by decide) (by decide) q) ?_
    show Go _ _ _ _ _ _ _ (s₁.setTop (mkF m 19 #[.val (.int x1), .val (.int x2), .val (.int x3), .val (.int x4), .val (.int x5), .val (.int (x5 &&& (7 : Int32))), .unset, .unset, .unset, .unset, .unset, .unset] [(.int x1)]))
    exact J1 _ (by rw [if_neg c11])
set_option maxRecDepth 65536 in
set_option maxHeartbeats 40000000 in
theorem comes_1 {Post : Tables → Env → Array Value → State → Outcome → State → Prop} (hpost : ∀ tb e args s v u, (limb_1_1.after args s (.returned v) u = true ∧ limb_1_2.after args s (.returned v) u = true ∧ True) → FrameEnd s (.returned v) u (Jvm.fieldLocs frame_1_writes args s ++ Jvm.arrayLocs frame_1_arrays args s ++ Jvm.staticLocs frame_1_statics s) 16 128 → Post tb e args s (.returned v) u) :
    ArmFor flags0 classFile x code maxLocals ret World_1 tables_1 room_1 Calls_1 rest_1 Pre_1 Post := by
  intro l hfl _ _ p e ha hc hk s m args below hf hA hF happ hP
  obtain ⟨hcalls, hrest, hpre⟩ := hP
  obtain ⟨-, -, -, hnamed, -, -, -, hat⟩ := (Spec.applies_iff hf).mp happ
  obtain ⟨hg, hn⟩ := and_e (Cond.before_iff.mp (show (Jvm.Cond.and given_1 narrow_1).before args s = true from hpre))
  obtain ⟨g1, g2⟩ := and_e hg
  obtain ⟨g3, g4⟩ := and_e g2
  obtain ⟨g5, g6⟩ := and_e g4
  obtain ⟨g7, g8⟩ := and_e g6
  obtain ⟨g9, g10⟩ := and_e g8
  obtain ⟨w0, w1, w2, w3, w4, rfl⟩ : ∃ w0 w1 w2 w3 w4 : Value, args = #[w0, w1, w2, w3, w4] := by
    have hs : args.size = 5 := by simpa [Cond.value, given_1] using g1
    obtain ⟨L⟩ := args
    match L, hs with
    | [w0, w1, w2, w3, w4], _ => exact ⟨w0, w1, w2, w3, w4, rfl⟩
  have hw := fun d (hd : d ∈ tables_1) => atoms_spec (ws := Jvm.Cond.code x code maxLocals ret :: tables_1) hat d (List.mem_cons_of_mem _ hd)
  have hfit : Fit s := fun {y c} hc i hi => by
    obtain ⟨ha, rfl⟩ := Array.getElem?_eq_some_iff.mp hc
    have q := List.all_eq_true.mp ((Array.all_eq_true_iff_forall_mem.mp hF) _ (Array.getElem_mem ha)) i (List.mem_range.mpr hi)
    simpa [Array.getElem?_eq_getElem hi] using q
  obtain ⟨hsets, hown0⟩ := atoms_of _ (rest_1_c_eq ▸ (show rest_1_c.before _ s = true from hrest))
  have hr0 := Cond.before_iff.mp hown0
  obtain ⟨i0, ei0⟩ := is_v g3
  obtain rfl : w0 = (.int i0) := Option.some.inj ei0
  obtain ⟨i1, ei1⟩ := is_v g5
  obtain rfl : w1 = (.int i1) := Option.some.inj ei1
  obtain ⟨i2, ei2⟩ := is_v g7
  obtain rfl : w2 = (.int i2) := Option.some.inj ei2
  obtain ⟨i3, ei3⟩ := is_v g9
  obtain rfl : w3 = (.int i3) := Option.some.inj ei3
  obtain ⟨i4, ei4⟩ := is_v g10
  obtain rfl : w4 = (.int i4) := Option.some.inj ei4
  have Shi := Sta.start (eqv_i (Term.int_eval (127)) (Cond.before_iff.mp (hsets _ (List.mem_of_getElem? (i := 3) rfl)))) (Or.inl (hsets _ (List.mem_of_getElem? (i := 1) rfl)))
  obtain ⟨ca, eca⟩ := exa_v (Cond.before_iff.mp (hsets _ (List.mem_of_getElem? (i := 5) rfl)))
  have Sca := Sta.start eca (Or.inr ⟨(hw _ (List.mem_of_getElem? (i := 30) rfl)), (hsets _ (List.mem_of_getElem? (i := 2) rfl))⟩)
  obtain ⟨cc, Acc⟩ := Arr.start eca (Cond.before_iff.mp (hsets _ (List.mem_of_getElem? (i := 4) rfl)))
  obtain ⟨hsz, hsize⟩ := Jvm.Free.IntBox.length_fwd (hsets _ (List.mem_of_getElem? (i := 6) rfl)) eca Acc.1 Acc.2.1 Acc.2.2
  have Bx := Bxs.start (val := fun j => .int (j - 128)) (fun idx => eca) Acc hsz hsize (by decide) (Cond.before_iff.mp (hsets _ (List.mem_of_getElem? (i := 7) rfl))) (fun X j nn hX => eqv_i (Term.sub_int (idx_at nn) (Term.int_eval (128))) hX)
  obtain ⟨n, o, h1, h2, h3, _, L, rfl, ⟨rfl, N⟩, hq⟩ := rm0 l s _ hw i0 i1 i2 i3 i4 ca cc s.heap s.heap.size (Nat.le_refl _) (Old.start s) Shi Sca Bx tables_1 p e ha hc hk s m _ below hf ((Spec.applies_iff_loose hf).mp happ).1 ⟨rfl, State.Warmed39.refl s, rfl⟩ trivial
  refine ⟨n, _, h1, h2, h3, hpost _ _ _ _ _ _ ⟨Cond.after_iff.mpr rfl, Cond.after_iff.mpr (eq_i res_at (Term.int_eval (1)) rfl), trivial⟩ ⟨hq.1, hq.2.1, (hq.2.2.sift fun y hy => Or.inr (N y hy)).mono (by decide) (by decide)⟩⟩
theorem main_1_1 : Claimed_1_1 := comes_1 fun _ _ _ _ _ _ h hF => ⟨h.1, hF⟩
theorem main_1_2 : Claimed_1_2 := comes_1 fun _ _ _ _ _ _ h hF => ⟨h.2.1, hF⟩
end Jvm.Pilot.@@N@@
namespace Jvm.Pilot.@@N@@
open Jvm Jvm.ClassFile Sem Op Lib Jvm.Free Jvm.Stand Jvm.Pilot.@@N@@.Jvm.D
/-! MADE BY PROGRAM (witnessworld.py) out of the Statement's table words and the real class files: 17 classes; the members and pool entries that the words name. The judged class is class 1, her method 1. -/
namespace start1
open Jvm.ClassFile
def u (s : String) : CpInfo := .utf8 (stringToUtf16 s)
/-- a pool by its gaps: so many unusable entries, then the entry; so many at the end -/
def gap : Nat → List CpInfo → List CpInfo
  | 0, r => r
  | n + 1, r => .unusable :: gap n r
def poolList (es : List (Nat × CpInfo)) (last : Nat) : List CpInfo := es.foldr (fun e r => gap e.1 (e.2 :: r)) (gap last [])
def pool (es : List (Nat × CpInfo)) (last : Nat) : Array CpInfo := ⟨poolList es last⟩
def fileOf (pool : Array CpInfo) (this : Nat) (attrs : Array Attribute := #[]) (ms : Array MethodInfo := #[]) (fl : Nat := 33) (sup : Nat := 0) (ifs : Array Nat := #[]) (fds : Array FieldInfo := #[]) : ClassFile where
  minorVersion := 0
  majorVersion := 65
  constantPool := pool
  accessFlags := fl
  thisClass := this
  superClass := sup
  interfaces := ifs
  fields := fds
  methods := ms
  attributes := attrs
def plain (name : String) (sup : Option ClassId) : Class where
  name := name
  kind := .ordinary
  loader := none
  accessFlags := 33
  super := sup
  interfaces := #[]
  cf := none
  fields := #[]
  methods := #[]
  instanceTypes := #[]
  staticTypes := #[]
  resolved := #[]
  callSites := []
  init := .initialized
  statics := none
  mirror := none

def pool0 : Array CpInfo := pool [(5, u "<init>"), (0, u "()V"), (1, .class_ 10), (1, u "java/lang/Object")] 113

def k0c0 : Code := { maxStack := 0, maxLocals := 1, code := object_method_1_code, exceptionTable := #[], attributes := #[] }
def k0m0 : Method := { name := "<init>", desc := "()V", sig := { parameters := [], returnType := none }, accessFlags := 1, code := some k0c0 }
/-- java/lang/Object -/
def k0 : Class := { plain "java/lang/Object" none with
  accessFlags := 33
  interfaces := #[]
  cf := some (fileOf pool0 8 #[] #[{ accessFlags := 1, nameIndex := 5, descriptorIndex := 6, attributes := #[] }] 33 0 #[] #[])
  fields := #[]
  methods := #[k0m0]
  instanceTypes := #[]
  staticTypes := #[]
  resolved := Array.replicate 124 none
  statics := none }

def pool1 : Array CpInfo := pool [(2, .class_ 4), (1, u "java/lang/Object"), (0, u "<init>"), (0, u "()V"), (0, .class_ 8), (0, u "com/example/quillon/quillon/roost/Position"), (0, .methodref 7 10), (0, .nameAndType 5 11), (0, u "(II)V"), (0, .methodref 13 14), (0, .class_ 15), (0, .nameAndType 16 17), (0, u "java/lang/Integer"), (0, u "valueOf"), (0, u "(I)Ljava/lang/Integer;"), (0, .methodref 7 19), (0, .nameAndType 20 21), (0, u "equals"), (0, u "(Ljava/lang/Object;)Z"), (0, .class_ 23), (0, u "com/example/quillon/quillon/roost/PositionEqualsPinLaw"), (2, u "law"), (0, u "(IIIII)Z")] 3

def k1m0 : Method := { name := "<init>", desc := "()V", sig := { parameters := [], returnType := none }, accessFlags := 1, code := none }
def k1c1 : Code := { maxStack := 4, maxLocals := 12, code := code, exceptionTable := #[], attributes := #[] }
def k1m1 : Method := { name := "law", desc := "(IIIII)Z", sig := { parameters := [.int, .int, .int, .int, .int], returnType := some .boolean }, accessFlags := 9, code := some k1c1 }
/-- com/example/quillon/quillon/roost/PositionEqualsPinLaw -/
def k1 : Class := { plain "com/example/quillon/quillon/roost/PositionEqualsPinLaw" (some 0) with
  accessFlags := 49
  interfaces := #[]
  cf := some (fileOf pool1 22 #[] #[{ accessFlags := 1, nameIndex := 5, descriptorIndex := 6, attributes := #[] }, { accessFlags := 9, nameIndex := 26, descriptorIndex := 27, attributes := #[] }] 49 2 #[] #[])
  fields := #[]
  methods := #[k1m0, k1m1]
  instanceTypes := #[]
  staticTypes := #[]
  resolved := Array.replicate 31 none
  statics := none }

def pool2 : Array CpInfo := pool [(1, .methodref 2 3), (0, .class_ 4), (0, .nameAndType 5 6), (0, u "java/lang/Object"), (0, u "<init>"), (0, u "()V"), (0, .class_ 8), (0, u "java/lang/Record")] 13

def k2c0 : Code := { maxStack := 1, maxLocals := 1, code := jdk_30_method_1_code, exceptionTable := #[], attributes := #[] }
def k2m0 : Method := { name := "<init>", desc := "()V", sig := { parameters := [], returnType := none }, accessFlags := 4, code := some k2c0 }
/-- java/lang/Record -/
def k2 : Class := { plain "java/lang/Record" (some 0) with
  accessFlags := 1057
  interfaces := #[]
  cf := some (fileOf pool2 7 #[] #[{ accessFlags := 4, nameIndex := 5, descriptorIndex := 6, attributes := #[] }] 1057 2 #[] #[])
  fields := #[]
  methods := #[k2m0]
  instanceTypes := #[]
  staticTypes := #[]
  resolved := Array.replicate 22 none
  statics := none }

def pool3 : Array CpInfo := pool [(1, .class_ 2), (0, u "java/lang/Comparable"), (0, .class_ 4), (0, u "java/lang/Object")] 7

/-- java/lang/Comparable -/
def k3 : Class := { plain "java/lang/Comparable" (some 0) with
  accessFlags := 1537
  interfaces := #[]
  cf := some (fileOf pool3 1 #[] #[] 1537 3 #[] #[])
  fields := #[]
  methods := #[]
  instanceTypes := #[]
  staticTypes := #[]
  resolved := Array.replicate 12 none
  statics := none }

def pool4 : Array CpInfo := pool [(1, .methodref 2 3), (0, .class_ 4), (0, .nameAndType 5 6), (0, u "java/lang/Record"), (0, u "<init>"), (0, u "()V"), (0, .fieldref 8 9), (0, .class_ 10), (0, .nameAndType 11 12), (0, u "com/example/quillon/quillon/roost/Position"), (0, u "line"), (0, u "I"), (0, .fieldref 8 14), (0, .nameAndType 15 12), (0, u "column"), (16, u "(II)V"), (2, u "START"), (0, u "Lcom/example/quillon/quillon/roost/Position;"), (0, .class_ 38), (0, u "java/lang/Comparable"), (3, u "equals"), (0, u "(Ljava/lang/Object;)Z")] 27

def k4c0 : Code := { maxStack := 2, maxLocals := 3, code := prog_136_method_1_code, exceptionTable := #[], attributes := #[] }
def k4m0 : Method := { name := "<init>", desc := "(II)V", sig := { parameters := [.int, .int], returnType := none }, accessFlags := 1, code := some k4c0 }
def k4c1 : Code := { maxStack := 2, maxLocals := 3, code := prog_136_method_2_code, exceptionTable := #[], attributes := #[] }
def k4m1 : Method := { name := "equals", desc := "(Ljava/lang/Object;)Z", sig := { parameters := [(.object "java/lang/Object")], returnType := some .boolean }, accessFlags := 1, code := some k4c1 }
/-- com/example/quillon/quillon/roost/Position -/
def k4 : Class := { plain "com/example/quillon/quillon/roost/Position" (some 2) with
  accessFlags := 49
  interfaces := #[3]
  cf := some (fileOf pool4 8 #[] #[{ accessFlags := 1, nameIndex := 5, descriptorIndex := 32, attributes := #[] }, { accessFlags := 1, nameIndex := 42, descriptorIndex := 43, attributes := #[] }] 49 2 #[37] #[{ accessFlags := 18, nameIndex := 11, descriptorIndex := 12, attributes := #[] }, { accessFlags := 18, nameIndex := 15, descriptorIndex := 12, attributes := #[] }, { accessFlags := 25, nameIndex := 35, descriptorIndex := 36, attributes := #[] }])
  fields := #[{ name := "line", type := .int, accessFlags := 18, slot := 0, constantValue := 0 }, { name := "column", type := .int, accessFlags := 18, slot := 1, constantValue := 0 }, { name := "START", type := (.object "com/example/quillon/quillon/roost/Position"), accessFlags := 25, slot := 0, constantValue := 0 }]
  methods := #[k4m0, k4m1]
  instanceTypes := #[.int, .int]
  staticTypes := #[(.object "com/example/quillon/quillon/roost/Position")]
  resolved := Array.replicate 71 none
  statics := none }

def pool5 : Array CpInfo := pool [(1, .class_ 2), (0, u "java/io/Serializable"), (0, .class_ 4), (0, u "java/lang/Object")] 2

/-- java/io/Serializable -/
def k5 : Class := { plain "java/io/Serializable" (some 0) with
  accessFlags := 1537
  interfaces := #[]
  cf := some (fileOf pool5 1 #[] #[] 1537 3 #[] #[])
  fields := #[]
  methods := #[]
  instanceTypes := #[]
  staticTypes := #[]
  resolved := Array.replicate 7 none
  statics := none }

def pool6 : Array CpInfo := pool [(1, .methodref 2 3), (0, .class_ 4), (0, .nameAndType 5 6), (0, u "java/lang/Object"), (0, u "<init>"), (0, u "()V"), (1, .class_ 10), (1, u "java/lang/Number"), (2, .class_ 14), (0, u "java/io/Serializable"), (0, u "serialVersionUID"), (0, u "J")] 20

def k6c0 : Code := { maxStack := 1, maxLocals := 1, code := jdk_18_method_1_code, exceptionTable := #[], attributes := #[] }
def k6m0 : Method := { name := "<init>", desc := "()V", sig := { parameters := [], returnType := none }, accessFlags := 1, code := some k6c0 }
/-- java/lang/Number -/
def k6 : Class := { plain "java/lang/Number" (some 0) with
  accessFlags := 1057
  interfaces := #[5]
  cf := some (fileOf pool6 8 #[] #[{ accessFlags := 1, nameIndex := 5, descriptorIndex := 6, attributes := #[] }] 1057 2 #[13] #[{ accessFlags := 26, nameIndex := 15, descriptorIndex := 16, attributes := #[] }])
  fields := #[{ name := "serialVersionUID", type := .long, accessFlags := 26, slot := 0, constantValue := 0 }]
  methods := #[k6m0]
  instanceTypes := #[]
  staticTypes := #[.long]
  resolved := Array.replicate 37 none
  statics := none }

def pool7 : Array CpInfo := pool [(1, .class_ 2), (0, u "java/lang/constant/Constable"), (0, .class_ 4), (0, u "java/lang/Object")] 6

/-- java/lang/constant/Constable -/
def k7 : Class := { plain "java/lang/constant/Constable" (some 0) with
  accessFlags := 1537
  interfaces := #[]
  cf := some (fileOf pool7 1 #[] #[] 1537 3 #[] #[])
  fields := #[]
  methods := #[]
  instanceTypes := #[]
  staticTypes := #[]
  resolved := Array.replicate 11 none
  statics := none }

def pool8 : Array CpInfo := pool [(1, .class_ 2), (0, u "java/lang/constant/ConstantDesc"), (0, .class_ 4), (0, u "java/lang/Object")] 32

/-- java/lang/constant/ConstantDesc -/
def k8 : Class := { plain "java/lang/constant/ConstantDesc" (some 0) with
  accessFlags := 1537
  interfaces := #[]
  cf := some (fileOf pool8 1 #[] #[] 1537 3 #[] #[])
  fields := #[]
  methods := #[]
  instanceTypes := #[]
  staticTypes := #[]
  resolved := Array.replicate 37 none
  statics := none }

def pool9 : Array CpInfo := pool [(1, .class_ 2), (0, u "java/lang/Integer"), (16, u "digits"), (0, u "[C"), (46, u "<init>"), (17, u "DigitOnes"), (0, u "[B"), (2, u "DigitTens"), (10, .nameAndType 67 101), (0, u "()V"), (85, u "valueOf"), (0, u "(I)Ljava/lang/Integer;"), (0, .class_ 190), (0, u "java/lang/Integer$IntegerCache"), (0, .fieldref 189 192), (0, .nameAndType 193 194), (0, u "high"), (0, u "I"), (0, .fieldref 189 196), (0, .nameAndType 197 198), (0, u "cache"), (0, u "[Ljava/lang/Integer;"), (0, .methodref 1 200), (0, .nameAndType 67 201), (0, u "(I)V"), (0, .methodref 203 100), (0, .class_ 204), (0, u "java/lang/Number"), (0, .fieldref 1 206), (0, .nameAndType 207 194), (0, u "value"), (94, u "TYPE"), (0, u "Ljava/lang/Class;"), (0, .class_ 305), (0, u "java/lang/Comparable"), (0, .class_ 307), (0, u "java/lang/constant/Constable"), (0, .class_ 309), (0, u "java/lang/constant/ConstantDesc"), (0, u "MIN_VALUE"), (1, u "MAX_VALUE"), (3, u "SIZE"), (1, u "BYTES"), (1, u "serialVersionUID"), (0, u "J")] 131

def k9c0 : Code := { maxStack := 3, maxLocals := 1, code := jdk_33_method_22_code, exceptionTable := #[], attributes := #[] }
def k9m0 : Method := { name := "valueOf", desc := "(I)Ljava/lang/Integer;", sig := { parameters := [.int], returnType := some (.object "java/lang/Integer") }, accessFlags := 9, code := some k9c0 }
def k9c1 : Code := { maxStack := 2, maxLocals := 2, code := jdk_33_method_23_code, exceptionTable := #[], attributes := #[] }
def k9m1 : Method := { name := "<init>", desc := "(I)V", sig := { parameters := [.int], returnType := none }, accessFlags := 1, code := some k9c1 }
/-- java/lang/Integer -/
def k9 : Class := { plain "java/lang/Integer" (some 6) with
  accessFlags := 49
  interfaces := #[3, 7, 8]
  cf := some (fileOf pool9 1 #[.nestMembers #[189]] #[{ accessFlags := 9, nameIndex := 187, descriptorIndex := 188, attributes := #[] }, { accessFlags := 1, nameIndex := 67, descriptorIndex := 201, attributes := #[] }] 49 203 #[304, 306, 308] #[{ accessFlags := 25, nameIndex := 310, descriptorIndex := 194, attributes := #[] }, { accessFlags := 25, nameIndex := 312, descriptorIndex := 194, attributes := #[] }, { accessFlags := 25, nameIndex := 302, descriptorIndex := 303, attributes := #[] }, { accessFlags := 24, nameIndex := 19, descriptorIndex := 20, attributes := #[] }, { accessFlags := 24, nameIndex := 89, descriptorIndex := 86, attributes := #[] }, { accessFlags := 24, nameIndex := 85, descriptorIndex := 86, attributes := #[] }, { accessFlags := 18, nameIndex := 207, descriptorIndex := 194, attributes := #[] }, { accessFlags := 25, nameIndex := 316, descriptorIndex := 194, attributes := #[] }, { accessFlags := 25, nameIndex := 318, descriptorIndex := 194, attributes := #[] }, { accessFlags := 26, nameIndex := 320, descriptorIndex := 321, attributes := #[] }])
  fields := #[{ name := "MIN_VALUE", type := .int, accessFlags := 25, slot := 0, constantValue := 0 }, { name := "MAX_VALUE", type := .int, accessFlags := 25, slot := 1, constantValue := 0 }, { name := "TYPE", type := (.object "java/lang/Class"), accessFlags := 25, slot := 2, constantValue := 0 }, { name := "digits", type := (.array .char), accessFlags := 24, slot := 3, constantValue := 0 }, { name := "DigitTens", type := (.array .byte), accessFlags := 24, slot := 4, constantValue := 0 }, { name := "DigitOnes", type := (.array .byte), accessFlags := 24, slot := 5, constantValue := 0 }, { name := "value", type := .int, accessFlags := 18, slot := 0, constantValue := 0 }, { name := "SIZE", type := .int, accessFlags := 25, slot := 6, constantValue := 0 }, { name := "BYTES", type := .int, accessFlags := 25, slot := 7, constantValue := 0 }, { name := "serialVersionUID", type := .long, accessFlags := 26, slot := 8, constantValue := 0 }]
  methods := #[k9m0, k9m1]
  instanceTypes := #[.int]
  staticTypes := #[.int, .int, (.object "java/lang/Class"), (.array .char), (.array .byte), (.array .byte), .int, .int, .long]
  resolved := Array.replicate 453 none
  statics := none }

def pool10 : Array CpInfo := pool [(2, .class_ 4), (1, u "java/lang/Object"), (0, u "<init>"), (0, u "()V"), (0, .class_ 8), (0, u "java/lang/Integer"), (7, .class_ 18), (1, u "java/lang/Integer$IntegerCache"), (0, u "$assertionsDisabled"), (0, u "Z"), (26, u "high"), (0, u "I"), (8, u "archivedCache"), (0, u "[Ljava/lang/Integer;"), (12, u "cache"), (0, u "low")] 27

def k10m0 : Method := { name := "<init>", desc := "()V", sig := { parameters := [], returnType := none }, accessFlags := 2, code := none }
/-- java/lang/Integer$IntegerCache -/
def k10 : Class := { plain "java/lang/Integer$IntegerCache" (some 0) with
  accessFlags := 48
  interfaces := #[]
  cf := some (fileOf pool10 16 #[.nestHost 7] #[{ accessFlags := 2, nameIndex := 5, descriptorIndex := 6, attributes := #[] }] 48 2 #[] #[{ accessFlags := 24, nameIndex := 72, descriptorIndex := 48, attributes := #[] }, { accessFlags := 24, nameIndex := 47, descriptorIndex := 48, attributes := #[] }, { accessFlags := 24, nameIndex := 71, descriptorIndex := 58, attributes := #[] }, { accessFlags := 8, nameIndex := 57, descriptorIndex := 58, attributes := #[] }, { accessFlags := 4120, nameIndex := 19, descriptorIndex := 20, attributes := #[] }])
  fields := #[{ name := "low", type := .int, accessFlags := 24, slot := 0, constantValue := 0 }, { name := "high", type := .int, accessFlags := 24, slot := 1, constantValue := 0 }, { name := "cache", type := (.array (.object "java/lang/Integer")), accessFlags := 24, slot := 2, constantValue := 0 }, { name := "archivedCache", type := (.array (.object "java/lang/Integer")), accessFlags := 8, slot := 3, constantValue := 0 }, { name := "$assertionsDisabled", type := .boolean, accessFlags := 4120, slot := 4, constantValue := 0 }]
  methods := #[k10m0]
  instanceTypes := #[]
  staticTypes := #[.int, .int, (.array (.object "java/lang/Integer")), (.array (.object "java/lang/Integer")), .boolean]
  resolved := Array.replicate 100 none
  statics := some 0 }

def pool11 : Array CpInfo := pool [(1, u "java/lang/Cloneable"), (0, .class_ 1), (0, u "java/lang/Object"), (0, .class_ 3)] 3

/-- java/lang/Cloneable -/
def k11 : Class := { plain "java/lang/Cloneable" (some 0) with
  accessFlags := 1537
  interfaces := #[]
  cf := some (fileOf pool11 2 #[] #[] 1537 4 #[] #[])
  fields := #[]
  methods := #[]
  instanceTypes := #[]
  staticTypes := #[]
  resolved := Array.replicate 8 none
  statics := none }

/-- the primitive byte -/
def k12 : Class := { plain "byte" none with kind := .primitive 'B', accessFlags := 0x411 }
/-- [B -/
def k13 : Class := { plain "[B" (some 0) with kind := .array 12 .byte, interfaces := #[11, 5], accessFlags := 1041 }

/-- the primitive int -/
def k14 : Class := { plain "int" none with kind := .primitive 'I', accessFlags := 0x411 }
/-- [I -/
def k15 : Class := { plain "[I" (some 0) with kind := .array 14 .int, interfaces := #[11, 5], accessFlags := 1041 }

/-- [Ljava/lang/Integer; -/
def k16 : Class := { plain "[Ljava/lang/Integer;" (some 0) with kind := .array 9 (.object "java/lang/Integer"), interfaces := #[11, 5], accessFlags := 1041 }

def heap : Heap := #[{ cls := 10, slots := #[.int 0, .int 127, .ref 1, .null, .int 0], vm := .statics 10 },
  { cls := 16, slots := #[.ref 2, .ref 3, .ref 4, .ref 5, .ref 6, .ref 7, .ref 8, .ref 9, .ref 10, .ref 11, .ref 12, .ref 13, .ref 14, .ref 15, .ref 16, .ref 17, .ref 18, .ref 19, .ref 20, .ref 21, .ref 22, .ref 23, .ref 24, .ref 25, .ref 26, .ref 27, .ref 28, .ref 29, .ref 30, .ref 31, .ref 32, .ref 33, .ref 34, .ref 35, .ref 36, .ref 37, .ref 38, .ref 39, .ref 40, .ref 41, .ref 42, .ref 43, .ref 44, .ref 45, .ref 46, .ref 47, .ref 48, .ref 49, .ref 50, .ref 51, .ref 52, .ref 53, .ref 54, .ref 55, .ref 56, .ref 57, .ref 58, .ref 59, .ref 60, .ref 61, .ref 62, .ref 63, .ref 64, .ref 65, .ref 66, .ref 67, .ref 68, .ref 69, .ref 70, .ref 71, .ref 72, .ref 73, .ref 74, .ref 75, .ref 76, .ref 77, .ref 78, .ref 79, .ref 80, .ref 81, .ref 82, .ref 83, .ref 84, .ref 85, .ref 86, .ref 87, .ref 88, .ref 89, .ref 90, .ref 91, .ref 92, .ref 93, .ref 94, .ref 95, .ref 96, .ref 97, .ref 98, .ref 99, .ref 100, .ref 101, .ref 102, .ref 103, .ref 104, .ref 105, .ref 106, .ref 107, .ref 108, .ref 109, .ref 110, .ref 111, .ref 112, .ref 113, .ref 114, .ref 115, .ref 116, .ref 117, .ref 118, .ref 119, .ref 120, .ref 121, .ref 122, .ref 123, .ref 124, .ref 125, .ref 126, .ref 127, .ref 128, .ref 129, .ref 130, .ref 131, .ref 132, .ref 133, .ref 134, .ref 135, .ref 136, .ref 137, .ref 138, .ref 139, .ref 140, .ref 141, .ref 142, .ref 143, .ref 144, .ref 145, .ref 146, .ref 147, .ref 148, .ref 149, .ref 150, .ref 151, .ref 152, .ref 153, .ref 154, .ref 155, .ref 156, .ref 157, .ref 158, .ref 159, .ref 160, .ref 161, .ref 162, .ref 163, .ref 164, .ref 165, .ref 166, .ref 167, .ref 168, .ref 169, .ref 170, .ref 171, .ref 172, .ref 173, .ref 174, .ref 175, .ref 176, .ref 177, .ref 178, .ref 179, .ref 180, .ref 181, .ref 182, .ref 183, .ref 184, .ref 185, .ref 186, .ref 187, .ref 188, .ref 189, .ref 190, .ref 191, .ref 192, .ref 193, .ref 194, .ref 195, .ref 196, .ref 197, .ref 198, .ref 199, .ref 200, .ref 201, .ref 202, .ref 203, .ref 204, .ref 205, .ref 206, .ref 207, .ref 208, .ref 209, .ref 210, .ref 211, .ref 212, .ref 213, .ref 214, .ref 215, .ref 216, .ref 217, .ref 218, .ref 219, .ref 220, .ref 221, .ref 222, .ref 223, .ref 224, .ref 225, .ref 226, .ref 227, .ref 228, .ref 229, .ref 230, .ref 231, .ref 232, .ref 233, .ref 234, .ref 235, .ref 236, .ref 237, .ref 238, .ref 239, .ref 240, .ref 241, .ref 242, .ref 243, .ref 244, .ref 245, .ref 246, .ref 247, .ref 248, .ref 249, .ref 250, .ref 251, .ref 252, .ref 253, .ref 254, .ref 255, .ref 256, .ref 257], vm := .none },
  { cls := 9, slots := #[.int (-128)], vm := .none },
  { cls := 9, slots := #[.int (-127)], vm := .none },
  { cls := 9, slots := #[.int (-126)], vm := .none },
  { cls := 9, slots := #[.int (-125)], vm := .none },
  { cls := 9, slots := #[.int (-124)], vm := .none },
  { cls := 9, slots := #[.int (-123)], vm := .none },
  { cls := 9, slots := #[.int (-122)], vm := .none },
  { cls := 9, slots := #[.int (-121)], vm := .none },
  { cls := 9, slots := #[.int (-120)], vm := .none },
  { cls := 9, slots := #[.int (-119)], vm := .none },
  { cls := 9, slots := #[.int (-118)], vm := .none },
  { cls := 9, slots := #[.int (-117)], vm := .none },
  { cls := 9, slots := #[.int (-116)], vm := .none },
  { cls := 9, slots := #[.int (-115)], vm := .none },
  { cls := 9, slots := #[.int (-114)], vm := .none },
  { cls := 9, slots := #[.int (-113)], vm := .none },
  { cls := 9, slots := #[.int (-112)], vm := .none },
  { cls := 9, slots := #[.int (-111)], vm := .none },
  { cls := 9, slots := #[.int (-110)], vm := .none },
  { cls := 9, slots := #[.int (-109)], vm := .none },
  { cls := 9, slots := #[.int (-108)], vm := .none },
  { cls := 9, slots := #[.int (-107)], vm := .none },
  { cls := 9, slots := #[.int (-106)], vm := .none },
  { cls := 9, slots := #[.int (-105)], vm := .none },
  { cls := 9, slots := #[.int (-104)], vm := .none },
  { cls := 9, slots := #[.int (-103)], vm := .none },
  { cls := 9, slots := #[.int (-102)], vm := .none },
  { cls := 9, slots := #[.int (-101)], vm := .none },
  { cls := 9, slots := #[.int (-100)], vm := .none },
  { cls := 9, slots := #[.int (-99)], vm := .none },
  { cls := 9, slots := #[.int (-98)], vm := .none },
  { cls := 9, slots := #[.int (-97)], vm := .none },
  { cls := 9, slots := #[.int (-96)], vm := .none },
  { cls := 9, slots := #[.int (-95)], vm := .none },
  { cls := 9, slots := #[.int (-94)], vm := .none },
  { cls := 9, slots := #[.int (-93)], vm := .none },
  { cls := 9, slots := #[.int (-92)], vm := .none },
  { cls := 9, slots := #[.int (-91)], vm := .none },
  { cls := 9, slots := #[.int (-90)], vm := .none },
  { cls := 9, slots := #[.int (-89)], vm := .none },
  { cls := 9, slots := #[.int (-88)], vm := .none },
  { cls := 9, slots := #[.int (-87)], vm := .none },
  { cls := 9, slots := #[.int (-86)], vm := .none },
  { cls := 9, slots := #[.int (-85)], vm := .none },
  { cls := 9, slots := #[.int (-84)], vm := .none },
  { cls := 9, slots := #[.int (-83)], vm := .none },
  { cls := 9, slots := #[.int (-82)], vm := .none },
  { cls := 9, slots := #[.int (-81)], vm := .none },
  { cls := 9, slots := #[.int (-80)], vm := .none },
  { cls := 9, slots := #[.int (-79)], vm := .none },
  { cls := 9, slots := #[.int (-78)], vm := .none },
  { cls := 9, slots := #[.int (-77)], vm := .none },
  { cls := 9, slots := #[.int (-76)], vm := .none },
  { cls := 9, slots := #[.int (-75)], vm := .none },
  { cls := 9, slots := #[.int (-74)], vm := .none },
  { cls := 9, slots := #[.int (-73)], vm := .none },
  { cls := 9, slots := #[.int (-72)], vm := .none },
  { cls := 9, slots := #[.int (-71)], vm := .none },
  { cls := 9, slots := #[.int (-70)], vm := .none },
  { cls := 9, slots := #[.int (-69)], vm := .none },
  { cls := 9, slots := #[.int (-68)], vm := .none },
  { cls := 9, slots := #[.int (-67)], vm := .none },
  { cls := 9, slots := #[.int (-66)], vm := .none },
  { cls := 9, slots := #[.int (-65)], vm := .none },
  { cls := 9, slots := #[.int (-64)], vm := .none },
  { cls := 9, slots := #[.int (-63)], vm := .none },
  { cls := 9, slots := #[.int (-62)], vm := .none },
  { cls := 9, slots := #[.int (-61)], vm := .none },
  { cls := 9, slots := #[.int (-60)], vm := .none },
  { cls := 9, slots := #[.int (-59)], vm := .none },
  { cls := 9, slots := #[.int (-58)], vm := .none },
  { cls := 9, slots := #[.int (-57)], vm := .none },
  { cls := 9, slots := #[.int (-56)], vm := .none },
  { cls := 9, slots := #[.int (-55)], vm := .none },
  { cls := 9, slots := #[.int (-54)], vm := .none },
  { cls := 9, slots := #[.int (-53)], vm := .none },
  { cls := 9, slots := #[.int (-52)], vm := .none },
  { cls := 9, slots := #[.int (-51)], vm := .none },
  { cls := 9, slots := #[.int (-50)], vm := .none },
  { cls := 9, slots := #[.int (-49)], vm := .none },
  { cls := 9, slots := #[.int (-48)], vm := .none },
  { cls := 9, slots := #[.int (-47)], vm := .none },
  { cls := 9, slots := #[.int (-46)], vm := .none },
  { cls := 9, slots := #[.int (-45)], vm := .none },
  { cls := 9, slots := #[.int (-44)], vm := .none },
  { cls := 9, slots := #[.int (-43)], vm := .none },
  { cls := 9, slots := #[.int (-42)], vm := .none },
  { cls := 9, slots := #[.int (-41)], vm := .none },
  { cls := 9, slots := #[.int (-40)], vm := .none },
  { cls := 9, slots := #[.int (-39)], vm := .none },
  { cls := 9, slots := #[.int (-38)], vm := .none },
  { cls := 9, slots := #[.int (-37)], vm := .none },
  { cls := 9, slots := #[.int (-36)], vm := .none },
  { cls := 9, slots := #[.int (-35)], vm := .none },
  { cls := 9, slots := #[.int (-34)], vm := .none },
  { cls := 9, slots := #[.int (-33)], vm := .none },
  { cls := 9, slots := #[.int (-32)], vm := .none },
  { cls := 9, slots := #[.int (-31)], vm := .none },
  { cls := 9, slots := #[.int (-30)], vm := .none },
  { cls := 9, slots := #[.int (-29)], vm := .none },
  { cls := 9, slots := #[.int (-28)], vm := .none },
  { cls := 9, slots := #[.int (-27)], vm := .none },
  { cls := 9, slots := #[.int (-26)], vm := .none },
  { cls := 9, slots := #[.int (-25)], vm := .none },
  { cls := 9, slots := #[.int (-24)], vm := .none },
  { cls := 9, slots := #[.int (-23)], vm := .none },
  { cls := 9, slots := #[.int (-22)], vm := .none },
  { cls := 9, slots := #[.int (-21)], vm := .none },
  { cls := 9, slots := #[.int (-20)], vm := .none },
  { cls := 9, slots := #[.int (-19)], vm := .none },
  { cls := 9, slots := #[.int (-18)], vm := .none },
  { cls := 9, slots := #[.int (-17)], vm := .none },
  { cls := 9, slots := #[.int (-16)], vm := .none },
  { cls := 9, slots := #[.int (-15)], vm := .none },
  { cls := 9, slots := #[.int (-14)], vm := .none },
  { cls := 9, slots := #[.int (-13)], vm := .none },
  { cls := 9, slots := #[.int (-12)], vm := .none },
  { cls := 9, slots := #[.int (-11)], vm := .none },
  { cls := 9, slots := #[.int (-10)], vm := .none },
  { cls := 9, slots := #[.int (-9)], vm := .none },
  { cls := 9, slots := #[.int (-8)], vm := .none },
  { cls := 9, slots := #[.int (-7)], vm := .none },
  { cls := 9, slots := #[.int (-6)], vm := .none },
  { cls := 9, slots := #[.int (-5)], vm := .none },
  { cls := 9, slots := #[.int (-4)], vm := .none },
  { cls := 9, slots := #[.int (-3)], vm := .none },
  { cls := 9, slots := #[.int (-2)], vm := .none },
  { cls := 9, slots := #[.int (-1)], vm := .none },
  { cls := 9, slots := #[.int 0], vm := .none },
  { cls := 9, slots := #[.int 1], vm := .none },
  { cls := 9, slots := #[.int 2], vm := .none },
  { cls := 9, slots := #[.int 3], vm := .none },
  { cls := 9, slots := #[.int 4], vm := .none },
  { cls := 9, slots := #[.int 5], vm := .none },
  { cls := 9, slots := #[.int 6], vm := .none },
  { cls := 9, slots := #[.int 7], vm := .none },
  { cls := 9, slots := #[.int 8], vm := .none },
  { cls := 9, slots := #[.int 9], vm := .none },
  { cls := 9, slots := #[.int 10], vm := .none },
  { cls := 9, slots := #[.int 11], vm := .none },
  { cls := 9, slots := #[.int 12], vm := .none },
  { cls := 9, slots := #[.int 13], vm := .none },
  { cls := 9, slots := #[.int 14], vm := .none },
  { cls := 9, slots := #[.int 15], vm := .none },
  { cls := 9, slots := #[.int 16], vm := .none },
  { cls := 9, slots := #[.int 17], vm := .none },
  { cls := 9, slots := #[.int 18], vm := .none },
  { cls := 9, slots := #[.int 19], vm := .none },
  { cls := 9, slots := #[.int 20], vm := .none },
  { cls := 9, slots := #[.int 21], vm := .none },
  { cls := 9, slots := #[.int 22], vm := .none },
  { cls := 9, slots := #[.int 23], vm := .none },
  { cls := 9, slots := #[.int 24], vm := .none },
  { cls := 9, slots := #[.int 25], vm := .none },
  { cls := 9, slots := #[.int 26], vm := .none },
  { cls := 9, slots := #[.int 27], vm := .none },
  { cls := 9, slots := #[.int 28], vm := .none },
  { cls := 9, slots := #[.int 29], vm := .none },
  { cls := 9, slots := #[.int 30], vm := .none },
  { cls := 9, slots := #[.int 31], vm := .none },
  { cls := 9, slots := #[.int 32], vm := .none },
  { cls := 9, slots := #[.int 33], vm := .none },
  { cls := 9, slots := #[.int 34], vm := .none },
  { cls := 9, slots := #[.int 35], vm := .none },
  { cls := 9, slots := #[.int 36], vm := .none },
  { cls := 9, slots := #[.int 37], vm := .none },
  { cls := 9, slots := #[.int 38], vm := .none },
  { cls := 9, slots := #[.int 39], vm := .none },
  { cls := 9, slots := #[.int 40], vm := .none },
  { cls := 9, slots := #[.int 41], vm := .none },
  { cls := 9, slots := #[.int 42], vm := .none },
  { cls := 9, slots := #[.int 43], vm := .none },
  { cls := 9, slots := #[.int 44], vm := .none },
  { cls := 9, slots := #[.int 45], vm := .none },
  { cls := 9, slots := #[.int 46], vm := .none },
  { cls := 9, slots := #[.int 47], vm := .none },
  { cls := 9, slots := #[.int 48], vm := .none },
  { cls := 9, slots := #[.int 49], vm := .none },
  { cls := 9, slots := #[.int 50], vm := .none },
  { cls := 9, slots := #[.int 51], vm := .none },
  { cls := 9, slots := #[.int 52], vm := .none },
  { cls := 9, slots := #[.int 53], vm := .none },
  { cls := 9, slots := #[.int 54], vm := .none },
  { cls := 9, slots := #[.int 55], vm := .none },
  { cls := 9, slots := #[.int 56], vm := .none },
  { cls := 9, slots := #[.int 57], vm := .none },
  { cls := 9, slots := #[.int 58], vm := .none },
  { cls := 9, slots := #[.int 59], vm := .none },
  { cls := 9, slots := #[.int 60], vm := .none },
  { cls := 9, slots := #[.int 61], vm := .none },
  { cls := 9, slots := #[.int 62], vm := .none },
  { cls := 9, slots := #[.int 63], vm := .none },
  { cls := 9, slots := #[.int 64], vm := .none },
  { cls := 9, slots := #[.int 65], vm := .none },
  { cls := 9, slots := #[.int 66], vm := .none },
  { cls := 9, slots := #[.int 67], vm := .none },
  { cls := 9, slots := #[.int 68], vm := .none },
  { cls := 9, slots := #[.int 69], vm := .none },
  { cls := 9, slots := #[.int 70], vm := .none },
  { cls := 9, slots := #[.int 71], vm := .none },
  { cls := 9, slots := #[.int 72], vm := .none },
  { cls := 9, slots := #[.int 73], vm := .none },
  { cls := 9, slots := #[.int 74], vm := .none },
  { cls := 9, slots := #[.int 75], vm := .none },
  { cls := 9, slots := #[.int 76], vm := .none },
  { cls := 9, slots := #[.int 77], vm := .none },
  { cls := 9, slots := #[.int 78], vm := .none },
  { cls := 9, slots := #[.int 79], vm := .none },
  { cls := 9, slots := #[.int 80], vm := .none },
  { cls := 9, slots := #[.int 81], vm := .none },
  { cls := 9, slots := #[.int 82], vm := .none },
  { cls := 9, slots := #[.int 83], vm := .none },
  { cls := 9, slots := #[.int 84], vm := .none },
  { cls := 9, slots := #[.int 85], vm := .none },
  { cls := 9, slots := #[.int 86], vm := .none },
  { cls := 9, slots := #[.int 87], vm := .none },
  { cls := 9, slots := #[.int 88], vm := .none },
  { cls := 9, slots := #[.int 89], vm := .none },
  { cls := 9, slots := #[.int 90], vm := .none },
  { cls := 9, slots := #[.int 91], vm := .none },
  { cls := 9, slots := #[.int 92], vm := .none },
  { cls := 9, slots := #[.int 93], vm := .none },
  { cls := 9, slots := #[.int 94], vm := .none },
  { cls := 9, slots := #[.int 95], vm := .none },
  { cls := 9, slots := #[.int 96], vm := .none },
  { cls := 9, slots := #[.int 97], vm := .none },
  { cls := 9, slots := #[.int 98], vm := .none },
  { cls := 9, slots := #[.int 99], vm := .none },
  { cls := 9, slots := #[.int 100], vm := .none },
  { cls := 9, slots := #[.int 101], vm := .none },
  { cls := 9, slots := #[.int 102], vm := .none },
  { cls := 9, slots := #[.int 103], vm := .none },
  { cls := 9, slots := #[.int 104], vm := .none },
  { cls := 9, slots := #[.int 105], vm := .none },
  { cls := 9, slots := #[.int 106], vm := .none },
  { cls := 9, slots := #[.int 107], vm := .none },
  { cls := 9, slots := #[.int 108], vm := .none },
  { cls := 9, slots := #[.int 109], vm := .none },
  { cls := 9, slots := #[.int 110], vm := .none },
  { cls := 9, slots := #[.int 111], vm := .none },
  { cls := 9, slots := #[.int 112], vm := .none },
  { cls := 9, slots := #[.int 113], vm := .none },
  { cls := 9, slots := #[.int 114], vm := .none },
  { cls := 9, slots := #[.int 115], vm := .none },
  { cls := 9, slots := #[.int 116], vm := .none },
  { cls := 9, slots := #[.int 117], vm := .none },
  { cls := 9, slots := #[.int 118], vm := .none },
  { cls := 9, slots := #[.int 119], vm := .none },
  { cls := 9, slots := #[.int 120], vm := .none },
  { cls := 9, slots := #[.int 121], vm := .none },
  { cls := 9, slots := #[.int 122], vm := .none },
  { cls := 9, slots := #[.int 123], vm := .none },
  { cls := 9, slots := #[.int 124], vm := .none },
  { cls := 9, slots := #[.int 125], vm := .none },
  { cls := 9, slots := #[.int 126], vm := .none },
  { cls := 9, slots := #[.int 127], vm := .none }]
def classes : Array Class := #[k0, k1, k2, k3, k4, k5, k6, k7, k8, k9, k10, k11, k12, k13, k14, k15, k16]
def interned : List (Array UInt16 × Addr) := []
def slotsUsed : Nat := 517
def theMethod : MethodId := ⟨1, 1⟩
def args0 : Array Value := #[.int 5, .int 5, .int 5, .int 5, .int 5]
def aboutOver (below : List Frame) : State where
  vm := { classes := classes, interned := interned.toArray }
  heap := heap
  slotsUsed := slotsUsed
  threads := #[{ frames := .invoking theMethod args0 :: below }]
def below0 : List Frame := [.native { method := ⟨0, 0⟩, args := #[] }]
def about1 : State := aboutOver below0
def p0 : Program := .bare "" "" ""
def e0 : Env := launch0.env 0 0 0
theorem w_frames : about1.frames = Frame.invoking theMethod args0 :: below0 := rfl
set_option maxRecDepth 65536 in
theorem w_args : argsFit about1.vm theMethod args0 = true := by decide +kernel
set_option maxRecDepth 65536 in
theorem w_heap : heapFits about1 = true := by decide +kernel
set_option maxRecDepth 65536 in
theorem w_runnable : about1.curStatus? = some .runnable := by decide +kernel
set_option maxRecDepth 65536 in
theorem w_alone : about1.alone = true := by decide +kernel
set_option maxRecDepth 65536 in
theorem w_named : about1.methodNamed? x = some theMethod := by decide +kernel
set_option maxRecDepth 65536 in
theorem w_hears : about1.hears theMethod below0 = true := by decide +kernel
set_option maxRecDepth 65536 in
theorem w_ripe : about1.ripe theMethod args0 below0 = true := by decide +kernel
theorem w_running : about1.status = .running := rfl
set_option maxRecDepth 65536 in
theorem w_room : about1.hasRoom e0.platform room_1 = true :=
  launch0.hasRoom_least _ room_1 (by decide +kernel) (by decide +kernel) (by decide +kernel) (by decide +kernel) (by decide +kernel) (by decide +kernel)
theorem allAtoms_all (ts : List Jvm.Cond) (a : Array Jvm.Value) (st : Jvm.State) : (allAtoms ts).before a st = ts.all (fun c => c.before a st) := by
  induction ts with
  | nil => rfl
  | cons c t ih =>
    show (Jvm.Cond.and c (allAtoms t)).before a st = _
    rw [Jvm.Cond.before_and, ih, List.all_cons]
def words1 : List Jvm.Cond := Jvm.Cond.code x code maxLocals ret :: tables_1
/-- a 'code' word, met by the world's own term for the bytes: nothing is compared byte by byte -/
theorem code_word {y : MethodName} {bytes : ByteArray} {mx : Nat} {rt : Option FieldType} {a : Array Value} {s : State} {m : MethodId} {meth : Method} {c : Code} (h1 : s.methodNamed? y = some m) (h2 : s.vm.method? m = some meth) (h3 : meth.code = some c) (h4 : c.code = bytes)
    (h5 : (c.maxLocals == mx && c.exceptionTable.isEmpty && decide (c.maxStack ≤ mostOperands) && decide (meth.sig.returnType = rt) && !meth.locks && decide (parseMethodDescriptor y.desc = some meth.sig)) = true) : (Jvm.Cond.code y bytes mx rt).before a s = true := by
  simp only [Bool.and_eq_true, beq_iff_eq, Bool.not_eq_true', decide_eq_true_eq] at h5
  obtain ⟨⟨⟨⟨⟨g1, g2⟩, g3⟩, g4⟩, g5⟩, g6⟩ := h5
  simp [Cond.before, Cond.holds, Cond.value, h1, h2, h3, h4, g1, g2, g3, g4, g5, g6]
def isCode : Jvm.Cond → Bool
  | .code _ _ _ _ => true
  | _ => false
theorem all_split {L : List Jvm.Cond} {P : Jvm.Cond → Bool} (h1 : L.all (fun c => isCode c || P c) = true) (h2 : ∀ c ∈ L.filter isCode, P c = true) : L.all P = true := by
  refine List.all_eq_true.mpr fun c hc => ?_
  have h := List.all_eq_true.mp h1 c hc
  rcases Bool.eq_false_or_eq_true (isCode c) with hi | hi
  · exact h2 c (List.mem_filter.mpr ⟨hc, hi⟩)
  · simpa [hi] using h
set_option maxRecDepth 65536 in
theorem w_c0 : (Jvm.Cond.code x code maxLocals ret).before args0 about1 = true := code_word (m := ⟨1, 1⟩) (meth := k1m1) (c := k1c1) (by decide +kernel) rfl rfl rfl (by decide +kernel)
set_option maxRecDepth 65536 in
theorem w_c1 : (Jvm.Cond.code ({ cls := "com/example/quillon/quillon/roost/Position", name := "<init>", desc := "(II)V" } : Jvm.MethodName) prog_136_method_1_code (3 : Nat) (Option.none : Option Jvm.ClassFile.FieldType)).before args0 about1 = true := code_word (m := ⟨4, 0⟩) (meth := k4m0) (c := k4c0) (by decide +kernel) rfl rfl rfl (by decide +kernel)
set_option maxRecDepth 65536 in
theorem w_c2 : (Jvm.Cond.code ({ cls := "java/lang/Record", name := "<init>", desc := "()V" } : Jvm.MethodName) jdk_30_method_1_code (1 : Nat) (Option.none : Option Jvm.ClassFile.FieldType)).before args0 about1 = true := code_word (m := ⟨2, 0⟩) (meth := k2m0) (c := k2c0) (by decide +kernel) rfl rfl rfl (by decide +kernel)
set_option maxRecDepth 65536 in
theorem w_c3 : (Jvm.Cond.code ({ cls := "java/lang/Object", name := "<init>", desc := "()V" } : Jvm.MethodName) object_method_1_code (1 : Nat) (Option.none : Option Jvm.ClassFile.FieldType)).before args0 about1 = true := code_word (m := ⟨0, 0⟩) (meth := k0m0) (c := k0c0) (by decide +kernel) rfl rfl rfl (by decide +kernel)
set_option maxRecDepth 65536 in
theorem w_c4 : (Jvm.Cond.code ({ cls := "com/example/quillon/quillon/roost/Position", name := "equals", desc := "(Ljava/lang/Object;)Z" } : Jvm.MethodName) prog_136_method_2_code (3 : Nat) (Option.some Jvm.ClassFile.FieldType.boolean)).before args0 about1 = true := code_word (m := ⟨4, 1⟩) (meth := k4m1) (c := k4c1) (by decide +kernel) rfl rfl rfl (by decide +kernel)
set_option maxRecDepth 65536 in
theorem w_c5 : (Jvm.Cond.code ({ cls := "java/lang/Integer", name := "valueOf", desc := "(I)Ljava/lang/Integer;" } : Jvm.MethodName) jdk_33_method_22_code (1 : Nat) (Option.some (Jvm.ClassFile.FieldType.object "java/lang/Integer"))).before args0 about1 = true := code_word (m := ⟨9, 0⟩) (meth := k9m0) (c := k9c0) (by decide +kernel) rfl rfl rfl (by decide +kernel)
set_option maxRecDepth 65536 in
theorem w_c6 : (Jvm.Cond.code ({ cls := "java/lang/Integer", name := "<init>", desc := "(I)V" } : Jvm.MethodName) jdk_33_method_23_code (2 : Nat) (Option.none : Option Jvm.ClassFile.FieldType)).before args0 about1 = true := code_word (m := ⟨9, 1⟩) (meth := k9m1) (c := k9c1) (by decide +kernel) rfl rfl rfl (by decide +kernel)
set_option maxRecDepth 65536 in
theorem w_c7 : (Jvm.Cond.code ({ cls := "java/lang/Number", name := "<init>", desc := "()V" } : Jvm.MethodName) jdk_18_method_1_code (1 : Nat) (Option.none : Option Jvm.ClassFile.FieldType)).before args0 about1 = true := code_word (m := ⟨6, 0⟩) (meth := k6m0) (c := k6c0) (by decide +kernel) rfl rfl rfl (by decide +kernel)
def codes1 : List Jvm.Cond := [Jvm.Cond.code x code maxLocals ret, Jvm.Cond.code ({ cls := "com/example/quillon/quillon/roost/Position", name := "<init>", desc := "(II)V" } : Jvm.MethodName) prog_136_method_1_code (3 : Nat) (Option.none : Option Jvm.ClassFile.FieldType), Jvm.Cond.code ({ cls := "java/lang/Record", name := "<init>", desc := "()V" } : Jvm.MethodName) jdk_30_method_1_code (1 : Nat) (Option.none : Option Jvm.ClassFile.FieldType), Jvm.Cond.code ({ cls := "java/lang/Object", name := "<init>", desc := "()V" } : Jvm.MethodName) object_method_1_code (1 : Nat) (Option.none : Option Jvm.ClassFile.FieldType), Jvm.Cond.code ({ cls := "com/example/quillon/quillon/roost/Position", name := "equals", desc := "(Ljava/lang/Object;)Z" } : Jvm.MethodName) prog_136_method_2_code (3 : Nat) (Option.some Jvm.ClassFile.FieldType.boolean), Jvm.Cond.code ({ cls := "java/lang/Integer", name := "valueOf", desc := "(I)Ljava/lang/Integer;" } : Jvm.MethodName) jdk_33_method_22_code (1 : Nat) (Option.some (Jvm.ClassFile.FieldType.object "java/lang/Integer")), Jvm.Cond.code ({ cls := "java/lang/Integer", name := "<init>", desc := "(I)V" } : Jvm.MethodName) jdk_33_method_23_code (2 : Nat) (Option.none : Option Jvm.ClassFile.FieldType), Jvm.Cond.code ({ cls := "java/lang/Number", name := "<init>", desc := "()V" } : Jvm.MethodName) jdk_18_method_1_code (1 : Nat) (Option.none : Option Jvm.ClassFile.FieldType)]
set_option maxRecDepth 65536 in
theorem codes_eq : words1.filter isCode = codes1 := rfl
theorem w_codes : ∀ c ∈ words1.filter isCode, c.before args0 about1 = true := by
  rw [codes_eq]
  intro c hc
  simp only [codes1, List.mem_cons, List.not_mem_nil, or_false] at hc
  rcases hc with rfl | rfl | rfl | rfl | rfl | rfl | rfl | rfl
  · exact w_c0
  · exact w_c1
  · exact w_c2
  · exact w_c3
  · exact w_c4
  · exact w_c5
  · exact w_c6
  · exact w_c7
set_option maxRecDepth 65536 in
theorem w_t1 : (words1.take 24).all (fun c => isCode c || c.before args0 about1) = true := by decide +kernel
set_option maxRecDepth 65536 in
theorem w_t2 : ((words1.drop 24).take 24).all (fun c => isCode c || c.before args0 about1) = true := by decide +kernel
set_option maxRecDepth 65536 in
theorem w_t3 : ((words1.drop 24).drop 24).all (fun c => isCode c || c.before args0 about1) = true := by decide +kernel
theorem w_tables : (allAtoms (Jvm.Cond.code x code maxLocals ret :: tables_1)).before args0 about1 = true := by
  rw [allAtoms_all]
  show words1.all (fun c => c.before args0 about1) = true
  refine all_split ?_ w_codes
  rw [← List.take_append_drop 24 words1, List.all_append, w_t1, ← List.take_append_drop 24 (words1.drop 24), List.all_append, w_t2, w_t3]
  rfl
set_option maxRecDepth 65536 in
theorem w_rest : rest_1_c.before args0 about1 = true := by decide +kernel
set_option maxRecDepth 65536 in
theorem w_case : (Jvm.Cond.and given_1 narrow_1).before args0 about1 = true := by decide +kernel
theorem w_applies : (headSpec (Jvm.Cond.code x code maxLocals ret :: tables_1) room_1).applies x e0.platform about1 = true :=
  (Spec.applies_iff w_frames).mpr ⟨w_running, w_runnable, w_alone, w_named, w_hears, w_ripe, w_room, w_tables⟩
theorem atStart : AtStart classFile x code maxLocals ret World_1 tables_1 room_1 Calls_1 rest_1 Pre_1 launch0 p0 e0 about1 theMethod args0 below0 :=
  ⟨lists_1, trivial, launch0.admits_env _ _ _, launch0.least_env, fairChoices_fair.cas, fairChoices_fair.clock, w_frames, w_args, w_heap, w_applies, trivial, w_rest, w_case⟩
end start1
theorem witness_1 : WitnessClaimed_1 := ⟨start1.p0, start1.e0, start1.about1, start1.theMethod, start1.args0, start1.below0, start1.atStart⟩
end Jvm.Pilot.@@N@@
