import JvmDerived
import JvmDerived.Pilot.@@N@@Statement
import JvmDerived.Pilot.@@N@@Code
set_option linter.unusedVariables false
set_option linter.unusedSimpArgs false
namespace Jvm.OwnKit
open Sem ClassFile Op Lib Jvm.Stand Jvm.Free Jvm.LawKit Jvm.RoadKit
section Kit
variable {p : Program} {l : Launch} {e : Env} {R : Room} {s : State} {m : MethodId} {args : Array Value} {below : List Frame} {meth : Method} {c : Code} {T : State} {locs : List Loc} {cells slots : Nat} {Z : State} {a0 : Array Value} {h h0 : Heap} {kc ks : Nat} {Q : Option Value → Heap → List Loc → Prop}
/-- from this state the body comes to its end, and Q holds of what it returns, of the heap there and of the places written -/
def Go (p : Program) (e : Env) (below : List Frame) (s : State) (kc ks : Nat) (Q : Option Value → Heap → List Loc → Prop) (a : State) : Prop :=
  ∃ (t : State) (o : Outcome), Steps p.tables e below a t ∧ t.status = .running ∧ Ended t below o ∧ ∃ v L, o = .returned v ∧ Q v t.heap L ∧ FrameEnd s o t L kc ks
theorem Go.of {a b : State} (st : ∀ t, Steps p.tables e below b t → Steps p.tables e below a t) (k : Go p e below s kc ks Q b) : Go p e below s kc ks Q a := by
  obtain ⟨t, o, h, r⟩ := k
  exact ⟨t, o, st t h, r⟩
theorem pad (X : Stand p l e R s m args below meth c T locs cells slots) {cells' slots' : Nat} (hc : cells ≤ cells') (hs : slots ≤ slots') : Stand p l e R s m args below meth c T locs cells' slots' :=
  ⟨X.admits, X.cas, X.clock, X.frames, X.room, X.hears, X.method, X.code, X.here, X.tail, X.warmed, X.limits, X.bytes, X.same.mono hc hs⟩
theorem Go.leave (X : Stand p l e R s m args below meth c T locs cells slots) (hlk : meth.locks = false) {v : Option Value} (hv : meth.sig.returnType = none → v = none) {g : JFrame}
    (st : ∀ fs, (∀ (f : JFrame) (acts : List Action), f.method = m → f.locked = none → f.entered = [] → (doReturn e (T.setTop f) acts v).1 = T.setFrames fs) → Steps p.tables e below (T.setTop g) (T.setFrames fs))
    (hc : cells ≤ kc) (hs : slots ≤ ks) (q : Q v T.heap locs) : Go p e below s kc ks Q (T.setTop g) := by
  obtain ⟨fs, hr, hrun, hended, hW, hsame⟩ := X.leave hv hlk
  exact ⟨_, _, st fs hr, hrun, hended, v, locs, rfl, q, ⟨_, rfl⟩, hW, hsame.mono hc hs⟩
theorem Go.retI (X : Stand p l e R s m args below meth c T locs cells slots) (hx : p.tables.exec = Jvm.exec) (hlk : meth.locks = false) (hret : meth.sig.returnType = some .int) {pc : Nat} {Ls : Array Slot} {z : Int32} {rest : List Value}
    (hd : decode c.code pc = .ok (.ireturn, 1)) (hc : cells ≤ kc) (hs : slots ≤ ks) (q : Q (some (.int z)) T.heap locs) : Go p e below s kc ks Q (T.setTop (mkF m pc Ls (.int z :: rest))) :=
  Go.leave X hlk (fun h => by rw [hret] at h; cases h) (fun fs hr => retOut X hx hret rfl (Or.inl ⟨rfl, Or.inl rfl, z, rfl⟩) hd hr) hc hs q
theorem Go.retN (X : Stand p l e R s m args below meth c T locs cells slots) (hx : p.tables.exec = Jvm.exec) (hlk : meth.locks = false) {t : FieldType} (hret : meth.sig.returnType = some t) (ht : t = .boolean ∨ t = .byte ∨ t = .char ∨ t = .short) {pc : Nat} {Ls : Array Slot} {z : Int32} {rest : List Value}
    (hd : decode c.code pc = .ok (.ireturn, 1)) (hz : nar t z = z) (hc : cells ≤ kc) (hs : slots ≤ ks) (q : Q (some (.int z)) T.heap locs) : Go p e below s kc ks Q (T.setTop (mkF m pc Ls (.int z :: rest))) :=
  Go.leave X hlk (fun h => by rw [hret] at h; cases h) (fun fs hr => RoadKit.retN X hx hret ht hd (by rw [hz]; exact hr)) hc hs q
theorem Go.retJ (X : Stand p l e R s m args below meth c T locs cells slots) (hx : p.tables.exec = Jvm.exec) (hlk : meth.locks = false) (hret : meth.sig.returnType = some .long) {pc : Nat} {Ls : Array Slot} {z : Int64} {rest : List Value}
    (hd : decode c.code pc = .ok (.lreturn, 1)) (hc : cells ≤ kc) (hs : slots ≤ ks) (q : Q (some (.long z)) T.heap locs) : Go p e below s kc ks Q (T.setTop (mkF m pc Ls (.long z :: rest))) :=
  Go.leave X hlk (fun h => by rw [hret] at h; cases h) (fun fs hr => retOut X hx hret rfl (Or.inr (Or.inl ⟨rfl, rfl, z, rfl⟩)) hd hr) hc hs q
theorem Go.retA (X : Stand p l e R s m args below meth c T locs cells slots) (hx : p.tables.exec = Jvm.exec) (hlk : meth.locks = false) {t : FieldType} (hret : meth.sig.returnType = some t) (ht : t.isReference = true) {pc : Nat} {Ls : Array Slot} {z : Value} {rest : List Value} (hz : z.isRef = true)
    (hd : decode c.code pc = .ok (.areturn, 1)) (hc : cells ≤ kc) (hs : slots ≤ ks) (q : Q (some z) T.heap locs) : Go p e below s kc ks Q (T.setTop (mkF m pc Ls (z :: rest))) :=
  Go.leave X hlk (fun h => by rw [hret] at h; cases h) (fun fs hr => retOut X hx hret (by cases t <;> first | rfl | (simp [FieldType.isReference] at ht; done)) (Or.inr (Or.inr (Or.inr (Or.inr ⟨rfl, ht, hz⟩)))) hd hr) hc hs q
theorem Go.retV (X : Stand p l e R s m args below meth c T locs cells slots) (hx : p.tables.exec = Jvm.exec) (hlk : meth.locks = false) (hret : meth.sig.returnType = none) {pc : Nat} {Ls : Array Slot}
    (hd : decode c.code pc = .ok (.return_, 1)) (hc : cells ≤ kc) (hs : slots ≤ ks) (q : Q none T.heap locs) : Go p e below s kc ks Q (T.setTop (mkF m pc Ls [])) :=
  Go.leave X hlk (fun _ => rfl) (fun fs hr => X.returnOut hx hret hd hr) hc hs q
/-- a body's contract: called with these arguments over this heap it returns, and Q holds -/
def Con (l : Launch) (Z : State) (y : MethodName) (bytes : ByteArray) (maxL : Nat) (ret : Option FieldType) (rm : Room) (as' : Array Value) (h0 : Heap) (Q : Option Value → Heap → List Loc → Prop) : Prop :=
  ∀ ws : List Cond, MetFree l y (head1 (Cond.code y bytes maxL ret :: ws) rm) (fun a U => a = as' ∧ Z.Warmed39 U.vm ∧ U.heap = h0) (fun _ _ _ _ _ => True) (fun _ U o U' => ∃ v L, o = .returned v ∧ Q v U'.heap L ∧ FrameEnd U o U' L rm.cells rm.slots)
theorem Con.intro {y : MethodName} {bytes : ByteArray} {maxL : Nat} {ret : Option FieldType} {rm : Room} {as' : Array Value} {gf : MethodId → JFrame} (hpl : plainFor y = true) (hef : ∀ m, entryFrame m as' maxL = gf m)
    (body : ∀ (p : Program) (e : Env) (s : State) (m : MethodId) (below : List Frame) (meth : Method) (c : Code) (s₁ : State), p.tables.exec = Jvm.exec → c.code = bytes → c.maxLocals = maxL → Z.Warmed39 s.vm → s.vm.findClass y.cls = some m.cls → meth.name = y.name → meth.sig.returnType = ret → meth.locks = false →
      Stand p l e rm s m as' below meth c s₁ [] 0 0 → s₁.heap = h0 → Go p e below s rm.cells rm.slots Q (s₁.setTop (gf m))) : Con l Z y bytes maxL ret rm as' h0 Q := by
  intro ws
  refine MetFree.of_bodySF hpl hisR ?_
  intro p e s m args below meth c s₁ Bd hml hP hK
  obtain ⟨rfl, hZ, hh⟩ := hP
  have k := body p e s m below meth c s₁ Bd.exec Bd.bytes hml hZ (findClass_of_methodNamed Bd.named) (name_of_methodNamed Bd.named Bd.method).1 Bd.returns Bd.notSynchronized (Stand.of_body Bd) (by rw [← hh, Bd.state]; rfl)
  rw [← hef m] at k
  exact k
theorem Go.static (X : Stand p l e R s m args below meth c T locs cells slots) (hx : p.tables.exec = Jvm.exec) (hZ : Z.Warmed39 s.vm) {own : String} {index : Nat} {y : MethodName} {bytes : ByteArray} {maxL : Nat} {ret : Option FieldType} {rm : Room} {Q' : Option Value → Heap → List Loc → Prop} {argsL : List Value}
    (hown : s.vm.findClass own = some m.cls) (w1 : (Cond.methodLink own index y).before a0 Z = true) (w2 : (Cond.static y).before a0 Z = true) (w3 : (Cond.initialized y.cls).before a0 Z = true) (w4 : (Cond.code y bytes maxL ret).before a0 Z = true)
    (hy : y.cls ≠ "java/lang/invoke/MethodHandle" ∧ y.cls ≠ "java/lang/invoke/VarHandle") (W : Nat) (eT : T.heap = h) (K : Con l Z y bytes maxL ret rm argsL.toArray h Q') (hf : rm.frames + 1 ≤ R.frames) (hlo : W + (maxL + 11) + rm.locals ≤ R.locals) (hc : cells + rm.cells ≤ R.cells) (hs : slots + rm.slots ≤ R.slots)
    {g : JFrame} (hg : g.method = m) (hsize : g.locals.size = c.maxLocals) {rest : List Value} (hlen : ∀ sig, parseMethodDescriptor y.desc = some sig → argsL.length = sig.parameters.length) (hstack : g.stack = argsL.reverse ++ rest) (hW : 2 * g.monitorRoom + (rest.map fun v => v.category).sum ≤ W)
    (hd : decode c.code g.pc = .ok (.invokestatic index, 3))
    (k : ∀ (T' : State) (v : Option Value) (L : List Loc), Stand p l e R s m args below meth c T' (locs ++ L) (cells + rm.cells) (slots + rm.slots) → Q' v T'.heap L → Go p e below s kc ks Q (T'.setTop { g with pc := g.pc + 3, stack := v.toList ++ rest })) : Go p e below s kc ks Q (T.setTop g) := by
  obtain ⟨v, _, ⟨T', L', k', n'⟩, -, X', ⟨Lc, hQ, l1, l2, l3⟩, st⟩ := Jvm.LawKit.callS X hx hown (mvT hZ w1) (mvT hZ w2) (mvT hZ w3) (mvT hZ w4) hy (backOf (W := W) (K []) hZ w4 w3 hf hlo) hg hsize hlen hstack hW hd (fun _ _ => ⟨rfl, eT, hc, hs⟩)
  dsimp only [Pt.U, Pt.locs, Pt.cells, Pt.slots] at X' l1 l2 l3 st hQ
  subst l1 l2 l3
  exact Go.of st (k T' v Lc X' hQ)
theorem Go.special (X : Stand p l e R s m args below meth c T locs cells slots) (hx : p.tables.exec = Jvm.exec) (hZ : Z.Warmed39 s.vm) {own : String} {index : Nat} {y : MethodName} {bytes : ByteArray} {maxL : Nat} {rm : Room} {Q' : Option Value → Heap → List Loc → Prop} {a : Addr} {argsL : List Value} (hy1 : y.name = "<init>")
    (hown : s.vm.findClass own = some m.cls) (w1 : (Cond.methodLink own index y).before a0 Z = true) (w2 : (Cond.instanceMethod y).before a0 Z = true) (w3 : (Cond.initialized y.cls).before a0 Z = true) (w4 : (Cond.code y bytes maxL none).before a0 Z = true)
    (hy : y.cls ≠ "java/lang/invoke/MethodHandle" ∧ y.cls ≠ "java/lang/invoke/VarHandle") (W : Nat) (eT : T.heap = h) (K : Con l Z y bytes maxL none rm (Value.ref a :: argsL).toArray h Q') (hf : rm.frames + 1 ≤ R.frames) (hlo : W + (maxL + 11) + rm.locals ≤ R.locals) (hc : cells + rm.cells ≤ R.cells) (hs : slots + rm.slots ≤ R.slots)
    {g : JFrame} (hg : g.method = m) (hsize : g.locals.size = c.maxLocals) {rest : List Value} (hlen : ∀ sig, parseMethodDescriptor y.desc = some sig → argsL.length = sig.parameters.length) (hstack : g.stack = argsL.reverse ++ .ref a :: rest) (hW : 2 * g.monitorRoom + (rest.map fun v => v.category).sum ≤ W)
    (hd : decode c.code g.pc = .ok (.invokespecial index, 3))
    (k : ∀ (T' : State) (v : Option Value) (L : List Loc), Stand p l e R s m args below meth c T' (locs ++ L) (cells + rm.cells) (slots + rm.slots) → Q' v T'.heap L → Go p e below s kc ks Q (T'.setTop { g with pc := g.pc + 3, stack := v.toList ++ rest })) : Go p e below s kc ks Q (T.setTop g) := by
  obtain ⟨v, _, ⟨T', L', k', n'⟩, -, X', ⟨Lc, hQ, l1, l2, l3⟩, st⟩ := X.specialBack hx hy1 hown (mvT hZ w1) (mvT hZ w2) (mvT hZ w4) hy (backOf (W := W) (K []) hZ w4 w3 hf hlo) hg hsize (Steps.refl _) hlen hstack hW hd (fun _ _ => ⟨rfl, eT, hc, hs⟩)
  dsimp only [Pt.U, Pt.locs, Pt.cells, Pt.slots] at X' l1 l2 l3 st hQ
  subst l1 l2 l3
  exact Go.of (fun _ q => st.trans q) (k T' v Lc X' hQ)
theorem Go.virtual (X : Stand p l e R s m args below meth c T locs cells slots) (hx : p.tables.exec = Jvm.exec) (hZ : Z.Warmed39 s.vm) {own C : String} {index : Nat} {y z : MethodName} {bytes : ByteArray} {maxL : Nat} {ret : Option FieldType} {rm : Room} {Q' : Option Value → Heap → List Loc → Prop} {a : Addr} {argsL : List Value}
    (hown : s.vm.findClass own = some m.cls) (w1 : (Cond.methodLink own index y).before a0 Z = true) (w2 : (Cond.declares y).before a0 Z = true) (hnf : NotFace s y) (w5 : (Cond.selects C y z).before a0 Z = true) (w6 : (Cond.instanceMethod z).before a0 Z = true) (w3 : (Cond.initialized z.cls).before a0 Z = true) (w4 : (Cond.code z bytes maxL ret).before a0 Z = true)
    (hy : y.cls ≠ "java/lang/invoke/MethodHandle" ∧ y.cls ≠ "java/lang/invoke/VarHandle") (W : Nat) (eT : T.heap = h) (E : Exa Z h a C) (K : Con l Z z bytes maxL ret rm (Value.ref a :: argsL).toArray h Q') (hf : rm.frames + 1 ≤ R.frames) (hlo : W + (maxL + 11) + rm.locals ≤ R.locals) (hc : cells + rm.cells ≤ R.cells) (hs : slots + rm.slots ≤ R.slots)
    {g : JFrame} (hg : g.method = m) (hsize : g.locals.size = c.maxLocals) {rest : List Value} (hlen : ∀ sig, parseMethodDescriptor y.desc = some sig → argsL.length = sig.parameters.length) (hstack : g.stack = argsL.reverse ++ .ref a :: rest) (hW : 2 * g.monitorRoom + (rest.map fun v => v.category).sum ≤ W)
    (hd : decode c.code g.pc = .ok (.invokevirtual index, 3))
    (k : ∀ (T' : State) (v : Option Value) (L : List Loc), Stand p l e R s m args below meth c T' (locs ++ L) (cells + rm.cells) (slots + rm.slots) → Q' v T'.heap L → Go p e below s kc ks Q (T'.setTop { g with pc := g.pc + 3, stack := v.toList ++ rest })) : Go p e below s kc ks Q (T.setTop g) := by
  obtain ⟨cq, kq, qa, -, qc⟩ := isOf hZ eT E
  obtain ⟨v, _, ⟨T', L', k', n'⟩, -, X', ⟨Lc, hQ, l1, l2, l3⟩, st⟩ := X.virtualBack hx hown (mvT hZ w1) (mvT hZ w2) hnf (mvT hZ w5) (mvT hZ w6) hy (backOf (W := W) (K []) hZ w4 w3 hf hlo) qa qc hg hsize (Steps.refl _) hlen hstack hW hd (fun _ _ => ⟨rfl, eT, hc, hs⟩)
  dsimp only [Pt.U, Pt.locs, Pt.cells, Pt.slots] at X' l1 l2 l3 st hQ
  subst l1 l2 l3
  exact Go.of (fun _ q => st.trans q) (k T' v Lc X' hQ)
theorem Go.virtualUp (X : Stand p l e R s m args below meth c T locs cells slots) (hx : p.tables.exec = Jvm.exec) (hZ : Z.Warmed39 s.vm) {own C owner : String} {index : Nat} {y z : MethodName} {bytes : ByteArray} {maxL : Nat} {ret : Option FieldType} {rm : Room} {Q' : Option Value → Heap → List Loc → Prop} {a : Addr} {argsL : List Value}
    (hown : s.vm.findClass own = some m.cls) (w1 : (Cond.methodLink own index y).before a0 Z = true) (w2 : (Cond.sameMethod y.cls owner y.name y.desc).before a0 Z = true) (w7 : (Cond.declares ⟨owner, y.name, y.desc⟩).before a0 Z = true) (w5 : (Cond.selects C y z).before a0 Z = true) (w6 : (Cond.instanceMethod z).before a0 Z = true) (w3 : (Cond.initialized z.cls).before a0 Z = true) (w4 : (Cond.code z bytes maxL ret).before a0 Z = true)
    (hy : owner ≠ "java/lang/invoke/MethodHandle" ∧ owner ≠ "java/lang/invoke/VarHandle") (W : Nat) (eT : T.heap = h) (E : Exa Z h a C) (K : Con l Z z bytes maxL ret rm (Value.ref a :: argsL).toArray h Q') (hf : rm.frames + 1 ≤ R.frames) (hlo : W + (maxL + 11) + rm.locals ≤ R.locals) (hc : cells + rm.cells ≤ R.cells) (hs : slots + rm.slots ≤ R.slots)
    {g : JFrame} (hg : g.method = m) (hsize : g.locals.size = c.maxLocals) {rest : List Value} (hlen : ∀ sig, parseMethodDescriptor y.desc = some sig → argsL.length = sig.parameters.length) (hstack : g.stack = argsL.reverse ++ .ref a :: rest) (hW : 2 * g.monitorRoom + (rest.map fun v => v.category).sum ≤ W)
    (hd : decode c.code g.pc = .ok (.invokevirtual index, 3))
    (k : ∀ (T' : State) (v : Option Value) (L : List Loc), Stand p l e R s m args below meth c T' (locs ++ L) (cells + rm.cells) (slots + rm.slots) → Q' v T'.heap L → Go p e below s kc ks Q (T'.setTop { g with pc := g.pc + 3, stack := v.toList ++ rest })) : Go p e below s kc ks Q (T.setTop g) := by
  obtain ⟨cq, kq, qa, -, qc⟩ := isOf hZ eT E
  obtain ⟨v, _, ⟨T', L', k', n'⟩, -, X', ⟨Lc, hQ, l1, l2, l3⟩, st⟩ := X.virtualBackUp hx hown (mvT hZ w1) (mvT hZ w2) (mvT hZ w7) hy (mvT hZ w5) (mvT hZ w6) (backOf (W := W) (K []) hZ w4 w3 hf hlo) qa qc hg hsize (Steps.refl _) hlen hstack hW hd (fun _ _ => ⟨rfl, eT, hc, hs⟩)
  dsimp only [Pt.U, Pt.locs, Pt.cells, Pt.slots] at X' l1 l2 l3 st hQ
  subst l1 l2 l3
  exact Go.of (fun _ q => st.trans q) (k T' v Lc X' hQ)
/-- a cast of what may be null -/
theorem castV (X : Stand p l e R s m args below meth c T locs cells slots) (hx : p.tables.exec = Jvm.exec) (hZ : Z.Warmed39 s.vm) {own K : String} {index : Nat} (hown : s.vm.findClass own = some m.cls) (w : (Cond.classLink own index K).before a0 Z = true) (eT : T.heap = h) {v : Value} (F : v = .null ∨ ∃ a, v = .ref a ∧ Ins Z h a K true)
    {g : JFrame} (hg : g.method = m) {rest : List Value} (hs : g.stack = v :: rest) (hd : decode c.code g.pc = .ok (.checkcast index, 3)) : ∃ T', Stand p l e R s m args below meth c T' locs cells slots ∧ T'.heap = h ∧ ∀ target, Steps p.tables e below (T'.setTop { g with pc := g.pc + 3 }) target → Steps p.tables e below (T.setTop g) target := by
  rcases F with rfl | ⟨a, rfl, I⟩
  · exact ⟨T, X, eT, fun target q => X.checkcastNull hx hg hs hd target q⟩
  · exact castY X hx hZ hown w eT I hg hs hd
end Kit
end Jvm.OwnKit
namespace Jvm.OwnKit
open Sem ClassFile Op Lib Jvm.Stand Jvm.Free Jvm.LawKit Jvm.RoadKit
section Arrays
variable {p : Program} {l : Launch} {e : Env} {R : Room} {s : State} {m : MethodId} {args : Array Value} {below : List Frame} {meth : Method} {c : Code} {T : State} {locs : List Loc} {cells slots : Nat} {Z : State} {a0 : Array Value} {h h' : Heap} {a b : Addr} {k : ClassId} {ty : FieldType} {n i : Nat} {f : Nat → Value} {sl : Nat} {v w : Value} {ws : List Addr} {j : Int32}
/-- the array at a: its class, its kind, its length, what it holds -/
def AF (Z : State) (h : Heap) (a : Addr) (k : ClassId) (ty : FieldType) (n : Nat) (f : Nat → Value) : Prop :=
  ∃ c : Cell, Arr Z h a c ty ∧ c.cls = k ∧ c.slots.size = n ∧ n < 2 ^ 31 ∧ ∀ i, i < n → c.slots[i]? = some (f i)
def updV (f : Nat → Value) (i : Nat) (v : Value) : Nat → Value := fun k => if k = i then v else f k
def upI (f : Nat → Int32) (i : Nat) (v : Int32) : Nat → Int32 := fun k => if k = i then v else f k
/-- the index j is the place i of an array of n -/
def Ix (j : Int32) (i n : Nat) : Prop := j.toNatClampNeg = i ∧ ¬ j < 0 ∧ i < n
theorem Ix.not_out {c : Cell} (q : Ix j i n) (S : c.slots.size = n) : ¬ (j < 0 ∨ c.slots.size ≤ j.toNatClampNeg) := by
  obtain ⟨q1, q2, q3⟩ := q
  rintro (r | r)
  · exact q2 r
  · rw [q1, S] at r; exact absurd q3 (Nat.not_lt.mpr r)
theorem AF.new {z : Int32} {d : Value} (A : Arr Z h a (newA k ty z) ty) (q : ¬ z < 0) (e : z.toNatClampNeg = n) (hd : defaultValue ty = d) : AF Z h a k ty n (fun _ => d) :=
  ⟨_, A, rfl, by rw [sz_new, e], by rw [← e]; exact (back32 q).2, fun i hi => by simp [newA, e, hi, hd]⟩
theorem AF.lt (F : AF Z h a k ty n f) : a < h.size := by obtain ⟨c, A, -⟩ := F; exact A.lt
theorem AF.ext (F : AF Z h a k ty n f) (E : Ext h h') : AF Z h' a k ty n f := by obtain ⟨c, A, r⟩ := F; exact ⟨c, A.ext E, r⟩
theorem AF.other (F : AF Z h b k ty n f) (W : Wr h h' a sl v) (q : b ≠ a) : AF Z h' b k ty n f := by obtain ⟨c, A, r⟩ := F; exact ⟨c, A.other W q, r⟩
theorem AF.keep (F : AF Z h a k ty n f) (K : Keep h h' ws) (q : a ∉ ws) : AF Z h' a k ty n f := by obtain ⟨c, A, r⟩ := F; exact ⟨c, ⟨K.2.1 a c A.1 q, A.2⟩, r⟩
theorem AF.cast {g : Nat → Value} (F : AF Z h a k ty n f) (q : ∀ i, i < n → f i = g i) : AF Z h a k ty n g := by obtain ⟨c, A, r1, r2, r3, H⟩ := F; exact ⟨c, A, r1, r2, r3, fun i hi => by rw [H i hi, q i hi]⟩
theorem AF.set (F : AF Z h a k ty n f) (W : Wr h h' a j.toNatClampNeg v) (q : Ix j i n) : AF Z h' a k ty n (updV f i v) := by
  obtain ⟨c, A, r1, r2, r3, H⟩ := F
  refine ⟨_, Arr.same W A, r1, by rw [sz_set]; exact r2, r3, fun x hx => ?_⟩
  rw [q.1]
  by_cases e : x = i
  · subst e
    simp [Cell.setSlot, updV, r2, hx]
  · have : (c.setSlot i v).slots[x]? = c.slots[x]? := Array.getElem?_setIfInBounds_ne (Ne.symm e)
    rw [this, H x hx]; simp [updV, e]
theorem AF.toI {g : Nat → Int32} {x : Int32} (F : AF Z h a k ty n (updV (fun i => .int (g i)) i (.int x))) : AF Z h a k ty n (fun j => .int ((upI g i x) j)) := F.cast fun j _ => by simp only [updV, upI]; split <;> rfl
theorem AF.length (F : AF Z h a k ty n f) (X : Stand p l e R s m args below meth c T locs cells slots) (hx : p.tables.exec = Jvm.exec) (hZ : Z.Warmed39 s.vm) (eT : T.heap = h) {z : Int32} (hz : n.toInt32 = z) {g : JFrame} (hg : g.method = m) {rest : List Value} (hs : g.stack = .ref a :: rest) (hd : decode c.code g.pc = .ok (.arraylength, 1)) {target : State}
    (q : Steps p.tables e below (T.setTop { g with pc := g.pc + 1, stack := .int z :: rest }) target) : Steps p.tables e below (T.setTop g) target := by
  obtain ⟨cl, A, r1, r2, r3, H⟩ := F
  refine X.arraylength hx (by rw [eT]; exact A.1) (State.isArrayOf_alike hZ.alike A.2.1) hg hs hd _ ?_
  rw [r2, hz]
  exact q
theorem AF.iaload (F : AF Z h a k .int n f) (X : Stand p l e R s m args below meth c T locs cells slots) (hx : p.tables.exec = Jvm.exec) (hZ : Z.Warmed39 s.vm) (eT : T.heap = h) (hi : Ix j i n) (hv : f i = v) {g : JFrame} (hg : g.method = m) {rest : List Value} (hs : g.stack = .int j :: .ref a :: rest) (hd : decode c.code g.pc = .ok (.iaload, 1)) {target : State}
    (q : Steps p.tables e below (T.setTop { g with pc := g.pc + 1, stack := v :: rest }) target) : Steps p.tables e below (T.setTop g) target := by
  obtain ⟨cl, A, r1, r2, r3, H⟩ := F
  exact X.iaload hx (by rw [eT]; exact A.1) (State.isArrayOf_alike hZ.alike A.2.1) A.2.2 (hi.not_out r2) (by rw [hi.1, H i hi.2.2, hv]) hg hs hd _ q
theorem AF.caload (F : AF Z h a k .char n f) (X : Stand p l e R s m args below meth c T locs cells slots) (hx : p.tables.exec = Jvm.exec) (hZ : Z.Warmed39 s.vm) (eT : T.heap = h) (hi : Ix j i n) (hv : f i = v) {g : JFrame} (hg : g.method = m) {rest : List Value} (hs : g.stack = .int j :: .ref a :: rest) (hd : decode c.code g.pc = .ok (.caload, 1)) {target : State}
    (q : Steps p.tables e below (T.setTop { g with pc := g.pc + 1, stack := v :: rest }) target) : Steps p.tables e below (T.setTop g) target := by
  obtain ⟨cl, A, r1, r2, r3, H⟩ := F
  exact X.caload hx (by rw [eT]; exact A.1) (State.isArrayOf_alike hZ.alike A.2.1) A.2.2 (hi.not_out r2) (by rw [hi.1, H i hi.2.2, hv]) hg hs hd _ q
theorem AF.baload (F : AF Z h a k .byte n f) (X : Stand p l e R s m args below meth c T locs cells slots) (hx : p.tables.exec = Jvm.exec) (hZ : Z.Warmed39 s.vm) (eT : T.heap = h) (hi : Ix j i n) (hv : f i = v) {g : JFrame} (hg : g.method = m) {rest : List Value} (hs : g.stack = .int j :: .ref a :: rest) (hd : decode c.code g.pc = .ok (.baload, 1)) {target : State}
    (q : Steps p.tables e below (T.setTop { g with pc := g.pc + 1, stack := v :: rest }) target) : Steps p.tables e below (T.setTop g) target := by
  obtain ⟨cl, A, r1, r2, r3, H⟩ := F
  exact X.baloadBytes hx (by rw [eT]; exact A.1) (State.isArrayOf_alike hZ.alike A.2.1) A.2.2 (hi.not_out r2) (by rw [hi.1, H i hi.2.2, hv]) hg hs hd _ q
theorem AF.aaload (F : AF Z h a k ty n f) (hty : ty.isReference = true) (X : Stand p l e R s m args below meth c T locs cells slots) (hx : p.tables.exec = Jvm.exec) (hZ : Z.Warmed39 s.vm) (eT : T.heap = h) (hi : Ix j i n) (hv : f i = v) {g : JFrame} (hg : g.method = m) {rest : List Value} (hs : g.stack = .int j :: .ref a :: rest) (hd : decode c.code g.pc = .ok (.aaload, 1)) {target : State}
    (q : Steps p.tables e below (T.setTop { g with pc := g.pc + 1, stack := v :: rest }) target) : Steps p.tables e below (T.setTop g) target := by
  obtain ⟨cl, A, r1, r2, r3, H⟩ := F
  exact X.aaload hx (by rw [eT]; exact A.1) (State.isArrayOf_alike hZ.alike A.2.1) hty A.2.2 (hi.not_out r2) (by rw [hi.1, H i hi.2.2, hv]) hg hs hd _ q
theorem AF.iastore (F : AF Z h a k .int n f) (X : Stand p l e R s m args below meth c T locs cells slots) (hx : p.tables.exec = Jvm.exec) (hZ : Z.Warmed39 s.vm) (eT : T.heap = h) (hi : Ix j i n) {x : Int32} {g : JFrame} (hg : g.method = m) {rest : List Value} (hs : g.stack = .int x :: .int j :: .ref a :: rest) (hd : decode c.code g.pc = .ok (.iastore, 1)) :
    ∃ T' h', Stand p l e R s m args below meth c T' (locs ++ [⟨a, j.toNatClampNeg⟩]) cells slots ∧ T'.heap = h' ∧ Wr h h' a j.toNatClampNeg (.int x) ∧ AF Z h' a k .int n (updV f i (.int x)) ∧ ∀ target, Steps p.tables e below (T'.setTop { g with pc := g.pc + 1, stack := rest }) target → Steps p.tables e below (T.setTop g) target := by
  have F0 := F
  obtain ⟨cl, A, r1, r2, r3, H⟩ := F
  obtain ⟨T', h', X', e', W', st'⟩ := stI X hx hZ eT A (hi.not_out r2) hg hs hd
  exact ⟨T', h', X', e', W', F0.set W' hi, st'⟩
theorem AF.castore (F : AF Z h a k .char n f) (X : Stand p l e R s m args below meth c T locs cells slots) (hx : p.tables.exec = Jvm.exec) (hZ : Z.Warmed39 s.vm) (eT : T.heap = h) (hi : Ix j i n) {x : Int32} {g : JFrame} (hg : g.method = m) {rest : List Value} (hs : g.stack = .int x :: .int j :: .ref a :: rest) (hd : decode c.code g.pc = .ok (.castore, 1)) :
    ∃ T' h', Stand p l e R s m args below meth c T' (locs ++ [⟨a, j.toNatClampNeg⟩]) cells slots ∧ T'.heap = h' ∧ Wr h h' a j.toNatClampNeg (.int (nar .char x)) ∧ AF Z h' a k .char n (updV f i (.int (nar .char x))) ∧ ∀ target, Steps p.tables e below (T'.setTop { g with pc := g.pc + 1, stack := rest }) target → Steps p.tables e below (T.setTop g) target := by
  have F0 := F
  obtain ⟨cl, A, r1, r2, r3, H⟩ := F
  obtain ⟨T', h', X', e', W', st'⟩ := stC X hx hZ eT A (hi.not_out r2) hg hs hd
  exact ⟨T', h', X', e', W', F0.set W' hi, st'⟩
theorem AF.bastore (F : AF Z h a k .byte n f) (X : Stand p l e R s m args below meth c T locs cells slots) (hx : p.tables.exec = Jvm.exec) (hZ : Z.Warmed39 s.vm) (eT : T.heap = h) (hi : Ix j i n) {x : Int32} {g : JFrame} (hg : g.method = m) {rest : List Value} (hs : g.stack = .int x :: .int j :: .ref a :: rest) (hd : decode c.code g.pc = .ok (.bastore, 1)) :
    ∃ T' h', Stand p l e R s m args below meth c T' (locs ++ [⟨a, j.toNatClampNeg⟩]) cells slots ∧ T'.heap = h' ∧ Wr h h' a j.toNatClampNeg (.int x.toInt8.toInt32) ∧ AF Z h' a k .byte n (updV f i (.int x.toInt8.toInt32)) ∧ ∀ target, Steps p.tables e below (T'.setTop { g with pc := g.pc + 1, stack := rest }) target → Steps p.tables e below (T.setTop g) target := by
  have F0 := F
  obtain ⟨cl, A, r1, r2, r3, H⟩ := F
  obtain ⟨T', h', X', e', W', st'⟩ := stB X hx hZ eT A (hi.not_out r2) hg hs hd
  exact ⟨T', h', X', e', W', F0.set W' hi, st'⟩
theorem AF.aastore (F : AF Z h a k ty n f) (hty : ty.isReference = true) (X : Stand p l e R s m args below meth c T locs cells slots) (hx : p.tables.exec = Jvm.exec) (hZ : Z.Warmed39 s.vm) (eT : T.heap = h) (hi : Ix j i n) (hsto : Sto Z h a v) {g : JFrame} (hg : g.method = m) {rest : List Value} (hs : g.stack = v :: .int j :: .ref a :: rest) (hd : decode c.code g.pc = .ok (.aastore, 1)) :
    ∃ T' h', Stand p l e R s m args below meth c T' (locs ++ [⟨a, j.toNatClampNeg⟩]) cells slots ∧ T'.heap = h' ∧ Wr h h' a j.toNatClampNeg v ∧ AF Z h' a k ty n (updV f i v) ∧ ∀ target, Steps p.tables e below (T'.setTop { g with pc := g.pc + 1, stack := rest }) target → Steps p.tables e below (T.setTop g) target := by
  have F0 := F
  obtain ⟨cl, A, r1, r2, r3, H⟩ := F
  obtain ⟨T', h', X', e', W', st'⟩ := stR X hx hZ eT A (hi.not_out r2) hty hsto hg hs hd
  exact ⟨T', h', X', e', W', F0.set W' hi, st'⟩
theorem AF.sto {C : String} {y : Addr} (F : AF Z h a k ty n f) (O : Ovr Z k C) (I : Ins Z h y C true) : Sto Z h a (.ref y) := by
  obtain ⟨cl, A, r1, -⟩ := F
  exact Sto.ofV A r1 O I
end Arrays
end Jvm.OwnKit
namespace Jvm.Pilot.@@N@@
open Jvm Jvm.ClassFile Sem Op Lib Jvm.Free Jvm.Stand Jvm.LawKit Jvm.RoadKit Jvm.OwnKit Bundle Jvm.Pilot.@@N@@.Jvm.D
def own_inv (mf pf : Nat → Int32) (sz : Int32) (b : Nat → Bool) : Prop :=
  (0 ≤ sz.toInt ∧ sz.toInt ≤ 4) ∧ (∀ n : Nat, n < 4 → 0 ≤ (pf n).toInt ∧ (pf n).toInt < 4) ∧ (∀ n : Nat, n < 4 → (b n = true ↔ ((pf n).toInt < sz.toInt ∧ (mf (pf n).toInt.toNat).toInt = n))) ∧ (∀ i : Nat, (i : Int) < sz.toInt → ∃ n : Nat, n < 4 ∧ (mf i).toInt = n ∧ (pf n).toInt = i)
theorem own_inv0 : own_inv (fun _ => 0) (fun _ => 0) 0 (fun _ => false) := by
  have e : (0 : Int32).toInt = 0 := by decide
  refine ⟨by rw [e]; omega, fun n hn => by rw [e]; omega, fun n hn => ?_, fun i hi => ?_⟩
  · simp [e]
  · rw [e] at hi; omega
theorem own_clear {mf pf : Nat → Int32} {sz : Int32} {b : Nat → Bool} (h : own_inv mf pf sz b) : own_inv mf pf 0 (fun _ => false) := by
  have e : (0 : Int32).toInt = 0 := by decide
  obtain ⟨h1, h2, h3, h4⟩ := h
  refine ⟨by rw [e]; omega, h2, fun n hn => ?_, fun i hi => ?_⟩
  · have := h2 n hn
    rw [e]
    constructor
    · intro q; cases q
    · intro q; omega
  · rw [e] at hi; omega
theorem own_room {mf pf : Nat → Int32} {sz : Int32} {b : Nat → Bool} (h : own_inv mf pf sz b) {k : Nat} (hk : k < 4) (hb : b k = false) : sz.toInt < 4 := by
  obtain ⟨h1, h2, h3, h4⟩ := h
  rcases Int.lt_or_le sz.toInt 4 with q | q
  · exact q
  · exfalso
    have hs : sz.toInt = 4 := by omega
    have hk' : ∀ i n : Nat, (i : Int) < 4 → (mf i).toInt = n → (pf n).toInt = i → n ≠ k := fun i n hi e1 e2 e3 => by
      subst e3
      have : b n = true := (h3 n hk).mpr ⟨by omega, by rw [e2]; exact e1⟩
      rw [hb] at this; cases this
    obtain ⟨n0, a0, b0, c0⟩ := h4 0 (by omega)
    obtain ⟨n1, a1, b1, c1⟩ := h4 1 (by omega)
    obtain ⟨n2, a2, b2, c2⟩ := h4 2 (by omega)
    obtain ⟨n3, a3, b3, c3⟩ := h4 3 (by omega)
    have d0 := hk' 0 n0 (by omega) b0 c0
    have d1 := hk' 1 n1 (by omega) b1 c1
    have d2 := hk' 2 n2 (by omega) b2 c2
    have d3 := hk' 3 n3 (by omega) b3 c3
    have e01 : n0 ≠ n1 := fun q => by subst q; omega
    have e02 : n0 ≠ n2 := fun q => by subst q; omega
    have e03 : n0 ≠ n3 := fun q => by subst q; omega
    have e12 : n1 ≠ n2 := fun q => by subst q; omega
    have e13 : n1 ≠ n3 := fun q => by subst q; omega
    have e23 : n2 ≠ n3 := fun q => by subst q; omega
    omega
theorem own_inc (x : Int32) (h : x.toInt < 4) (h0 : 0 ≤ x.toInt) : (x + (1 : Int32)).toInt = x.toInt + 1 := by
  rw [Int32.toInt_add]
  have e : (1 : Int32).toInt = 1 := by decide
  rw [e]; exact Int.bmod_eq_of_le (by omega) (by omega)
theorem own_dec (x : Int32) (h : x.toInt ≤ 4) (h0 : 0 ≤ x.toInt) : (x - (1 : Int32)).toInt = x.toInt - 1 := by
  rw [Int32.toInt_sub]
  have e : (1 : Int32).toInt = 1 := by decide
  rw [e]; exact Int.bmod_eq_of_le (by omega) (by omega)
theorem own_add {mf pf : Nat → Int32} {sz : Int32} {b : Nat → Bool} (h : own_inv mf pf sz b) {k : Nat} (hk : k < 4) (hb : b k = false) (x : Int32) (hx : x.toInt = k) : own_inv (upI mf sz.toInt.toNat x) (upI pf k sz) (sz + 1) (fun i => i == k || b i) := by
  have hr := own_room h hk hb
  obtain ⟨h1, h2, h3, h4⟩ := h
  have es := own_inc sz hr h1.1
  refine ⟨by rw [es]; omega, fun n hn => ?_, fun n hn => ?_, fun i hi => ?_⟩
  · unfold upI
    by_cases e : n = k
    · rw [if_pos e]; omega
    · rw [if_neg e]; exact h2 n hn
  · unfold upI
    by_cases e : n = k
    · subst e
      simp only [if_true, es, hx]
      simp
      omega
    · simp only [if_neg e]
      have p := h2 n hn
      have eb : (n == k || b n) = b n := by simp [e]
      rw [eb, h3 n hn, es]
      by_cases f : (pf n).toInt.toNat = sz.toInt.toNat
      · rw [if_pos f]
        constructor
        · rintro ⟨q1, q2⟩; omega
        · rintro ⟨q1, q2⟩; omega
      · rw [if_neg f]
        constructor
        · rintro ⟨q1, q2⟩; exact ⟨by omega, q2⟩
        · rintro ⟨q1, q2⟩; exact ⟨by omega, q2⟩
  · rw [es] at hi
    unfold upI
    by_cases f : i = sz.toInt.toNat
    · refine ⟨k, hk, by rw [if_pos f]; exact hx, ?_⟩
      rw [if_pos rfl]; omega
    · obtain ⟨n, q1, q2, q3⟩ := h4 i (by omega)
      have e : n ≠ k := fun e => by
        subst e
        have : b n = true := (h3 n hk).mpr ⟨by omega, by rw [q3]; exact q2⟩
        rw [hb] at this; cases this
      exact ⟨n, q1, by rw [if_neg f]; exact q2, by rw [if_neg e]; exact q3⟩
/-- what a removal finds -/
theorem own_last {mf pf : Nat → Int32} {sz : Int32} {b : Nat → Bool} (h : own_inv mf pf sz b) {k : Nat} (hk : k < 4) (hb : b k = true) : 1 ≤ sz.toInt ∧ (sz - (1 : Int32)).toInt = sz.toInt - 1 ∧ 0 ≤ (mf (sz - (1 : Int32)).toInt.toNat).toInt ∧ (mf (sz - (1 : Int32)).toInt.toNat).toInt < 4 := by
  obtain ⟨h1, h2, h3, h4⟩ := h
  have q := (h3 k hk).mp hb
  have p := h2 k hk
  have ed := own_dec sz h1.2 h1.1
  refine ⟨by omega, ed, ?_⟩
  rw [ed]
  obtain ⟨n, q1, q2, q3⟩ := h4 (sz.toInt - 1).toNat (by omega)
  rw [q2]; omega
theorem own_rem {mf pf : Nat → Int32} {sz : Int32} {b : Nat → Bool} (h : own_inv mf pf sz b) {k : Nat} (hk : k < 4) (hb : b k = true) :
    own_inv (upI mf (pf k).toInt.toNat (mf (sz - (1 : Int32)).toInt.toNat)) (upI pf (mf (sz - (1 : Int32)).toInt.toNat).toInt.toNat (pf k)) (sz - 1) (fun i => b i && !(i == k)) := by
  obtain ⟨-, ed, -, -⟩ := own_last h hk hb
  obtain ⟨h1, h2, h3, h4⟩ := h
  obtain ⟨p1, p2⟩ := (h3 k hk).mp hb
  have p0 := h2 k hk
  rw [ed]
  obtain ⟨nl, q1, q2, q3⟩ := h4 (sz.toInt - 1).toNat (by omega)
  generalize hL : mf (sz.toInt - 1).toNat = last at *
  have eL : last.toInt.toNat = nl := by omega
  rw [eL]
  refine ⟨by omega, fun n hn => ?_, fun n hn => ?_, fun i hi => ?_⟩
  · unfold upI
    by_cases e : n = nl
    · rw [if_pos e]; exact p0
    · rw [if_neg e]; exact h2 n hn
  · unfold upI
    rw [ed]
    by_cases e : n = nl
    · subst e
      simp only [if_true]
      by_cases f : n = k
      · subst f
        simp
        omega
      · have : b n = true := (h3 n hn).mpr ⟨by omega, by rw [q3, ← hL] at *; rw [show ((sz.toInt - 1).toNat : Int).toNat = (sz.toInt - 1).toNat from by omega, hL]; exact q2⟩
        simp [f, this]
        refine ⟨?_, q2⟩
        rcases Int.lt_or_le (pf k).toInt (sz.toInt - 1) with g | g
        · exact g
        · exfalso
          have : (pf k).toInt.toNat = (sz.toInt - 1).toNat := by omega
          rw [this, hL] at p2; omega
    · simp only [if_neg e]
      have pn := h2 n hn
      by_cases f : n = k
      · subst f
        simp only [if_true]
        simp
        omega
      · have eb : (b n && !(n == k)) = b n := by simp [f]
        rw [eb, h3 n hn]
        by_cases g : (pf n).toInt.toNat = (pf k).toInt.toNat
        · rw [if_pos g, g]
          constructor
          · rintro ⟨r1, r2⟩; omega
          · rintro ⟨r1, r2⟩; omega
        · rw [if_neg g]
          constructor
          · rintro ⟨r1, r2⟩
            refine ⟨?_, r2⟩
            rcases Int.lt_or_le (pf n).toInt (sz.toInt - 1) with gg | gg
            · exact gg
            · exfalso
              have : (pf n).toInt.toNat = (sz.toInt - 1).toNat := by omega
              rw [this, hL] at r2; omega
          · rintro ⟨r1, r2⟩; exact ⟨by omega, r2⟩
  · unfold upI
    rw [ed] at hi
    by_cases g : i = (pf k).toInt.toNat
    · refine ⟨nl, q1, by rw [if_pos g]; exact q2, ?_⟩
      rw [if_pos rfl]; omega
    · obtain ⟨n, r1, r2, r3⟩ := h4 i (by omega)
      have e : n ≠ nl := fun e => by subst e; omega
      exact ⟨n, r1, by rw [if_neg g]; exact r2, by rw [if_neg e]; exact r3⟩
/-- the mask's bits -/
def own_bits (m : Int32) (k : Nat) : Bool := m.toBitVec.getLsbD k
def own_b (b : Bool) : Int32 := if b = true then 1 else 0
theorem own_four (x : Int32) : ∃ k : Nat, k < 4 ∧ (x &&& (3 : Int32)) = Int32.ofNat k := by
  have h : (x &&& (3 : Int32)).toBitVec.toNat < 4 := by
    rw [Int32.toBitVec_and, BitVec.toNat_and]
    exact Nat.lt_of_le_of_lt Nat.and_le_right (by decide)
  refine ⟨_, h, ?_⟩
  apply Int32.toBitVec_inj.mp
  apply BitVec.eq_of_toNat_eq
  rw [Int32.toBitVec_ofNat', BitVec.toNat_ofNat, Nat.mod_eq_of_lt (by omega)]
theorem own_k4 {k : Nat} (hk : k < 4) : k = 0 ∨ k = 1 ∨ k = 2 ∨ k = 3 := by omega
theorem own_or (m : Int32) {k : Nat} (hk : k < 4) : ∀ n, n < 4 → own_bits (m ||| ((1 : Int32) <<< (Int32.ofNat k &&& 31))) n = (n == k || own_bits m n) := by
  intro n hn
  unfold own_bits
  rw [Int32.toBitVec_or, BitVec.getLsbD_or, Bool.or_comm]
  congr 1
  rcases own_k4 hk with rfl | rfl | rfl | rfl <;> rcases own_k4 hn with rfl | rfl | rfl | rfl <;> decide
theorem own_and (m : Int32) {k : Nat} (hk : k < 4) : ∀ n, n < 4 → own_bits (m &&& (((1 : Int32) <<< (Int32.ofNat k &&& 31)) ^^^ (-1 : Int32))) n = (own_bits m n && !(n == k)) := by
  intro n hn
  unfold own_bits
  rw [Int32.toBitVec_and, BitVec.getLsbD_and]
  congr 1
  rcases own_k4 hk with rfl | rfl | rfl | rfl <;> rcases own_k4 hn with rfl | rfl | rfl | rfl <;> decide
theorem own_inv_cast {mf pf : Nat → Int32} {sz : Int32} {b b' : Nat → Bool} (h : own_inv mf pf sz b) (q : ∀ n, n < 4 → b' n = b n) : own_inv mf pf sz b' :=
  ⟨h.1, h.2.1, fun n hn => by rw [q n hn]; exact h.2.2.1 n hn, h.2.2.2⟩
theorem own_has {mf pf : Nat → Int32} {sz : Int32} {b : Nat → Bool} (h : own_inv mf pf sz b) {k : Nat} (hk : k < 4) (x : Int32) (hx : x = Int32.ofNat k) : (b k = true ↔ (pf k < sz ∧ mf (pf k).toNatClampNeg = x)) := by
  rw [h.2.2.1 k hk, Int32.lt_iff_toInt_lt, ← Int32.toInt_inj]
  have : x.toInt = k := by rw [hx]; rcases own_k4 hk with rfl | rfl | rfl | rfl <;> decide
  rw [this]
  exact Iff.rfl
theorem own_bit (m : Int32) {k : Nat} (hk : k < 4) : (((m.toUInt32 >>> (Int32.ofNat k &&& 31).toUInt32).toInt32 &&& (1 : Int32)) = (0 : Int32)) ↔ own_bits m k = false := by
  have e : ((m.toUInt32 >>> (Int32.ofNat k &&& 31).toUInt32).toInt32).toBitVec = m.toBitVec >>> k := by
    show (m.toUInt32 >>> (Int32.ofNat k &&& 31).toUInt32).toBitVec = _
    rw [UInt32.toBitVec_shiftRight]
    show m.toBitVec >>> ((Int32.ofNat k &&& 31).toUInt32.toBitVec % 32#32) = _
    rcases own_k4 hk with rfl | rfl | rfl | rfl <;> rfl
  unfold own_bits
  rw [← Int32.toBitVec_inj, Int32.toBitVec_and, e]
  constructor
  · intro h
    have := congrArg (fun b => b.getLsbD 0) h
    simpa using this
  · intro h
    apply BitVec.eq_of_getLsbD_eq
    intro i hi
    rw [BitVec.getLsbD_and, BitVec.getLsbD_ushiftRight]
    by_cases e : i = 0
    · subst e; simp [h]
    · have : (1 : Int32).toBitVec.getLsbD i = false := by
        show (1#32).getLsbD i = false
        simp [e]
      rw [this]; simp
def own_step (m x : Int32) : Int32 := if (((x.toUInt32 >>> ((2 : Int32) &&& 31).toUInt32).toInt32) &&& (3 : Int32)) = (3 : Int32) then (0 : Int32) else if (((x.toUInt32 >>> ((2 : Int32) &&& 31).toUInt32).toInt32) &&& (3 : Int32)) = (2 : Int32) then (m &&& (((1 : Int32) <<< ((x &&& (3 : Int32)) &&& 31)) ^^^ (-1 : Int32))) else (m ||| ((1 : Int32) <<< ((x &&& (3 : Int32)) &&& 31)))
theorem own_toInt {x : Int32} {k : Nat} (hk : k < 4) (hx : x = Int32.ofNat k) : x.toInt = k := by rw [hx]; rcases own_k4 hk with rfl | rfl | rfl | rfl <;> decide
theorem own_ix (x : Int32) (h0 : 0 ≤ x.toInt) (h4 : x.toInt < 4) : Ix x x.toInt.toNat 4 := by
  refine ⟨rfl, fun q => ?_, by omega⟩
  rw [Int32.lt_iff_toInt_lt] at q
  have e : (0 : Int32).toInt = 0 := by decide
  omega
theorem own_ixk {x : Int32} {k : Nat} (hk : k < 4) (hx : x = Int32.ofNat k) : Ix x k 4 := by
  have := own_toInt hk hx
  have q := own_ix x (by omega) (by omega)
  rw [this] at q
  exact q
theorem own_bf {b : Bool} (h : own_b b = (0 : Int32)) : b = false := by cases b <;> first | rfl | (exact absurd h (by decide))
theorem own_bt {b : Bool} (h : ¬ own_b b = (0 : Int32)) : b = true := by cases b <;> first | rfl | (exact absurd (by decide) h)
theorem own_same {bb : Nat → Bool} {k : Nat} (h : bb k = true) (n : Nat) : (n == k || bb n) = bb n := by
  by_cases e : n = k
  · subst e; simp [h]
  · simp [e]
theorem own_same' {bb : Nat → Bool} {k : Nat} (h : bb k = false) (n : Nat) : (bb n && !(n == k)) = bb n := by
  by_cases e : n = k
  · subst e; simp [h]
  · simp [e]
theorem upId (f : Nat → Int32) (i : Nat) (v : Int32) (j : Nat) : updV (fun i => .int (f i)) i (.int v) j = .int (upI f i v j) := by simp only [updV, upI]; split <;> rfl
theorem own_end (M x : Int32) {k : Nat} (hk : k < 4) (hx : x = Int32.ofNat k) : (own_b (own_bits M k)) = (if (((M.toUInt32 >>> (x &&& 31).toUInt32).toInt32) &&& (1 : Int32)) = (0 : Int32) then (0 : Int32) else (1 : Int32)) := by
  have q := own_bit M hk
  rw [hx]
  cases e : own_bits M k
  · rw [if_pos (q.mpr e)]; rfl
  · rw [if_neg (fun r => by rw [q.mp r] at e; cases e)]; rfl
theorem d1_0 : decode prog_59_method_1_code 0 = .ok (.aload_n 0, 1) := by decide +kernel
theorem d1_1 : decode prog_59_method_1_code 1 = .ok (.invokespecial 1, 3) := by decide +kernel
theorem d1_4 : decode prog_59_method_1_code 4 = .ok (.aload_n 0, 1) := by decide +kernel
theorem d1_5 : decode prog_59_method_1_code 5 = .ok (.iload_n 1, 1) := by decide +kernel
theorem d1_6 : decode prog_59_method_1_code 6 = .ok (.newarray .int, 2) := by decide +kernel
theorem d1_8 : decode prog_59_method_1_code 8 = .ok (.putfield 7, 3) := by decide +kernel
theorem d1_11 : decode prog_59_method_1_code 11 = .ok (.aload_n 0, 1) := by decide +kernel
theorem d1_12 : decode prog_59_method_1_code 12 = .ok (.iload_n 1, 1) := by decide +kernel
theorem d1_13 : decode prog_59_method_1_code 13 = .ok (.newarray .int, 2) := by decide +kernel
theorem d1_15 : decode prog_59_method_1_code 15 = .ok (.putfield 13, 3) := by decide +kernel
theorem d1_18 : decode prog_59_method_1_code 18 = .ok (.return_, 1) := by decide +kernel
theorem pn0 : plainName "com/example/quillon/quillon/ir/TemporarySet" = true := by first | (simp [plainName, overriddenIn]; done) | decide +kernel
theorem ef_1 (m : MethodId) (a : Addr) : entryFrame m #[(.ref a), (.int (4 : Int32))] 2 = mkF m 0 #[.val (.ref a), .val (.int (4 : Int32))] [] := by first | (simp [entryFrame, mkF, argsToLocals, Value.category]; done) | rfl
def Q1 (Z : State) (a : Addr) (u1 : Value) (u2 : Value) (h0 : Heap) (n0 : Nat) (v : Option Value) (h : Heap) (L : List Loc) : Prop := ∃ am : Addr, ∃ ap : Addr, ∃ km : ClassId, ∃ kp : ClassId, v = none ∧ Fr n0 L ∧ Keep h0 h [a] ∧ Exa Z h a "com/example/quillon/quillon/ir/TemporarySet" ∧ h0.size ≤ am ∧ h0.size ≤ ap ∧ am ≠ ap ∧ Fld Z h a "com/example/quillon/quillon/ir/TemporarySet" "members" "[I" (.ref am) ∧ Fld Z h a "com/example/quillon/quillon/ir/TemporarySet" "places" "[I" (.ref ap) ∧ Fld Z h a "com/example/quillon/quillon/ir/TemporarySet" "size" "I" (.int (0 : Int32)) ∧ AF Z h am km .int 4 (fun i => .int ((fun _ => (0 : Int32)) i)) ∧ AF Z h ap kp .int 4 (fun i => .int ((fun _ => (0 : Int32)) i))
set_option maxRecDepth 65536 in
set_option maxHeartbeats 40000000 in
theorem rm1 (l : Launch) (Z : State) (a0 : Array Value) (hw : ∀ d ∈ tables_1, d.before a0 Z = true) (a : Addr) (u1 : Value) (u2 : Value) (h0 : Heap) (n0 : Nat) (Zs : n0 ≤ h0.size) (E_a : Exa Z h0 a "com/example/quillon/quillon/ir/TemporarySet") (F_a_members : Fld Z h0 a "com/example/quillon/quillon/ir/TemporarySet" "members" "[I" u1) (F_a_places : Fld Z h0 a "com/example/quillon/quillon/ir/TemporarySet" "places" "[I" u2) (F_a_size : Fld Z h0 a "com/example/quillon/quillon/ir/TemporarySet" "size" "I" (.int (0 : Int32))) (g_a : n0 ≤ a) :
    Con l Z (⟨"com/example/quillon/quillon/ir/TemporarySet", "<init>", "(I)V"⟩ : MethodName) prog_59_method_1_code 2 none ({ frames := 1, cells := 2, slots := 8, locals := 12 } : Room) #[(.ref a), (.int (4 : Int32))] h0 (Q1 Z a u1 u2 h0 n0) := by
  refine Con.intro (plainFor_of_name pn0) (fun m => ef_1 m a) ?_
  intro p e s m below meth c s₁ hx hby hml0 hZ hown hnm hret hlk X0 e0
  have hml : c.maxLocals = 2 := hml0
  have N0 := Fr.nil n0
  have Kp : Keep h0 h0 [a] := Keep.refl h0 _
  show Go _ _ _ _ _ _ _ (s₁.setTop (mkF m 0 #[.val (.ref a), .val (.int (4 : Int32))] []))
  refine Go.of (fun _ q => XS.aloadN X0.here hx rfl (hb hby d1_0) rfl rfl q) ?_
  show Go _ _ _ _ _ _ _ (s₁.setTop (mkF m 1 #[.val (.ref a), .val (.int (4 : Int32))] [(.ref a)]))
  obtain ⟨T1, X1, e1, st1⟩ := initO X0 hx hZ hown (hw _ (List.mem_of_getElem? (i := 6) rfl)) (hw _ (List.mem_of_getElem? (i := 7) rfl)) (hw _ (List.mem_of_getElem? (i := 8) rfl)) e0 (g := (mkF m 1 #[.val (.ref a), .val (.int (4 : Int32))] [(.ref a)])) rfl (by rw [hml]; rfl) rfl (hb hby d1_1) (by decide) (W := 0) (by show 2 * 0 + _ ≤ _; exact Nat.le_of_eq rfl) (by decide)
  refine Go.of st1 ?_
  show Go _ _ _ _ _ _ _ (T1.setTop (mkF m 4 #[.val (.ref a), .val (.int (4 : Int32))] []))
  refine Go.of (fun _ q => XS.aloadN X1.here hx rfl (hb hby d1_4) rfl rfl q) ?_
  show Go _ _ _ _ _ _ _ (T1.setTop (mkF m 5 #[.val (.ref a), .val (.int (4 : Int32))] [(.ref a)]))
  refine Go.of (fun _ q => XS.iloadN X1.here hx rfl (hb hby d1_5) rfl q) ?_
  show Go _ _ _ _ _ _ _ (T1.setTop (mkF m 6 #[.val (.ref a), .val (.int (4 : Int32))] [(.int (4 : Int32)), (.ref a)]))
  obtain ⟨T2, h2, k2, X2, e2, E2, A2, B2, st2⟩ := newPE X1 hx hZ (hw _ (List.mem_of_getElem? (i := 9) rfl)) e1 (g := (mkF m 6 #[.val (.ref a), .val (.int (4 : Int32))] [(.int (4 : Int32)), (.ref a)])) rfl (hb hby d1_6) rfl (by decide) (cap := 4) (by decide) (by decide) (by decide) (by decide) (ad := "[I") (by decide)
  obtain ⟨am, g2⟩ : ∃ z, z = h0.size := ⟨_, rfl⟩
  rw [← g2] at A2 B2 st2
  refine Go.of st2 ?_
  have g_am : n0 ≤ am := Nat.le_trans Zs (Nat.le_of_eq g2.symm)
  have sz_am : h0.size ≤ am := Nat.le_trans Kp.1 (Nat.le_of_eq g2.symm)
  have ne_a_am : a ≠ am := Nat.ne_of_lt (Nat.lt_of_lt_of_le E_a.lt (Nat.le_of_eq g2.symm))
  have Zs := Nat.le_trans Zs E2.1
  have Kp := Kp.ext E2
  have E_a := E_a.ext E2
  have F_a_members := F_a_members.ext E2
  have F_a_places := F_a_places.ext E2
  have F_a_size := F_a_size.ext E2
  have E_am := B2
  have A_am : AF Z h2 am k2 .int 4 (fun i => .int ((fun _ => (0 : Int32)) i)) := AF.new A2 (by decide) rfl rfl
  show Go _ _ _ _ _ _ _ (T2.setTop (mkF m 8 #[.val (.ref a), .val (.int (4 : Int32))] [(.ref am), (.ref a)]))
  obtain ⟨T3, h3, X3, e3, W3, st3⟩ := putF X2 hx hZ hown (host := "") (Or.inl (hw _ (List.mem_of_getElem? (i := 10) rfl))) Via.refl e2 F_a_members E_a (Or.inr ⟨(hw _ (List.mem_of_getElem? (i := 11) rfl)), rfl, hnm⟩) (hw _ (List.mem_of_getElem? (i := 1) rfl)) (ty := (.array .int)) (by decide) rfl rfl (g := (mkF m 8 #[.val (.ref a), .val (.int (4 : Int32))] [(.ref am), (.ref a)])) rfl rfl (hb hby d1_8)
  refine Go.of st3 ?_
  have Zs := Nat.le_trans Zs (Nat.le_of_eq W3.size.symm)
  have Kp := Kp.wr W3 (Or.inl (List.mem_of_getElem? (i := 0) rfl))
  have E_a := E_a.wr W3
  have F_a_members := F_a_members.same W3
  have F_a_places := F_a_places.other W3 (Or.inr (slot_ne (Or.inr (hw _ (List.mem_of_getElem? (i := 13) rfl))) (Or.inr (hw _ (List.mem_of_getElem? (i := 11) rfl))) (by decide) (t := (.array .int)) (t' := (.array .int)) (by decide) (by decide)))
  have F_a_size := F_a_size.other W3 (Or.inr (slot_ne (Or.inl (hw _ (List.mem_of_getElem? (i := 29) rfl))) (Or.inr (hw _ (List.mem_of_getElem? (i := 11) rfl))) (by decide) (t := .int) (t' := (.array .int)) (by decide) (by decide)))
  have E_am := E_am.wr W3
  have A_am := A_am.other W3 (Ne.symm ne_a_am)
  have N3 := Fr.snoc X3 N0 g_a
  show Go _ _ _ _ _ _ _ (T3.setTop (mkF m 11 #[.val (.ref a), .val (.int (4 : Int32))] []))
  refine Go.of (fun _ q => XS.aloadN X3.here hx rfl (hb hby d1_11) rfl rfl q) ?_
  show Go _ _ _ _ _ _ _ (T3.setTop (mkF m 12 #[.val (.ref a), .val (.int (4 : Int32))] [(.ref a)]))
  refine Go.of (fun _ q => XS.iloadN X3.here hx rfl (hb hby d1_12) rfl q) ?_
  show Go _ _ _ _ _ _ _ (T3.setTop (mkF m 13 #[.val (.ref a), .val (.int (4 : Int32))] [(.int (4 : Int32)), (.ref a)]))
  obtain ⟨T4, h4, k4, X4, e4, E4, A4, B4, st4⟩ := newPE X3 hx hZ (hw _ (List.mem_of_getElem? (i := 9) rfl)) e3 (g := (mkF m 13 #[.val (.ref a), .val (.int (4 : Int32))] [(.int (4 : Int32)), (.ref a)])) rfl (hb hby d1_13) rfl (by decide) (cap := 4) (by decide) (by decide) (by decide) (by decide) (ad := "[I") (by decide)
  obtain ⟨ap, g4⟩ : ∃ z, z = h3.size := ⟨_, rfl⟩
  rw [← g4] at A4 B4 st4
  refine Go.of st4 ?_
  have g_ap : n0 ≤ ap := Nat.le_trans Zs (Nat.le_of_eq g4.symm)
  have sz_ap : h0.size ≤ ap := Nat.le_trans Kp.1 (Nat.le_of_eq g4.symm)
  have ne_a_ap : a ≠ ap := Nat.ne_of_lt (Nat.lt_of_lt_of_le E_a.lt (Nat.le_of_eq g4.symm))
  have ne_am_ap : am ≠ ap := Nat.ne_of_lt (Nat.lt_of_lt_of_le E_am.lt (Nat.le_of_eq g4.symm))
  have Zs := Nat.le_trans Zs E4.1
  have Kp := Kp.ext E4
  have E_a := E_a.ext E4
  have F_a_members := F_a_members.ext E4
  have F_a_places := F_a_places.ext E4
  have F_a_size := F_a_size.ext E4
  have E_am := E_am.ext E4
  have A_am := A_am.ext E4
  have E_ap := B4
  have A_ap : AF Z h4 ap k4 .int 4 (fun i => .int ((fun _ => (0 : Int32)) i)) := AF.new A4 (by decide) rfl rfl
  show Go _ _ _ _ _ _ _ (T4.setTop (mkF m 15 #[.val (.ref a), .val (.int (4 : Int32))] [(.ref ap), (.ref a)]))
  obtain ⟨T5, h5, X5, e5, W5, st5⟩ := putF X4 hx hZ hown (host := "") (Or.inl (hw _ (List.mem_of_getElem? (i := 12) rfl))) Via.refl e4 F_a_places E_a (Or.inr ⟨(hw _ (List.mem_of_getElem? (i := 13) rfl)), rfl, hnm⟩) (hw _ (List.mem_of_getElem? (i := 1) rfl)) (ty := (.array .int)) (by decide) rfl rfl (g := (mkF m 15 #[.val (.ref a), .val (.int (4 : Int32))] [(.ref ap), (.ref a)])) rfl rfl (hb hby d1_15)
  refine Go.of st5 ?_
  have Zs := Nat.le_trans Zs (Nat.le_of_eq W5.size.symm)
  have Kp := Kp.wr W5 (Or.inl (List.mem_of_getElem? (i := 0) rfl))
  have E_a := E_a.wr W5
  have F_a_members := F_a_members.other W5 (Or.inr (slot_ne (Or.inr (hw _ (List.mem_of_getElem? (i := 11) rfl))) (Or.inr (hw _ (List.mem_of_getElem? (i := 13) rfl))) (by decide) (t := (.array .int)) (t' := (.array .int)) (by decide) (by decide)))
  have F_a_places := F_a_places.same W5
  have F_a_size := F_a_size.other W5 (Or.inr (slot_ne (Or.inl (hw _ (List.mem_of_getElem? (i := 29) rfl))) (Or.inr (hw _ (List.mem_of_getElem? (i := 13) rfl))) (by decide) (t := .int) (t' := (.array .int)) (by decide) (by decide)))
  have E_am := E_am.wr W5
  have A_am := A_am.other W5 (Ne.symm ne_a_am)
  have E_ap := E_ap.wr W5
  have A_ap := A_ap.other W5 (Ne.symm ne_a_ap)
  have N5 := Fr.snoc X5 N3 g_a
  show Go _ _ _ _ _ _ _ (T5.setTop (mkF m 18 #[.val (.ref a), .val (.int (4 : Int32))] []))
  refine Go.retV X5 hx hlk hret (hb hby d1_18) (by decide) (by decide) ?_
  rw [e5]
  exact ⟨am, ap, k2, k4, rfl, N5, Kp, E_a, sz_am, sz_ap, ne_am_ap, F_a_members, F_a_places, F_a_size, A_am, A_ap⟩
theorem d5_0 : decode prog_59_method_2_code 0 = .ok (.aload_n 0, 1) := by decide +kernel
theorem d5_1 : decode prog_59_method_2_code 1 = .ok (.getfield 13, 3) := by decide +kernel
theorem d5_4 : decode prog_59_method_2_code 4 = .ok (.iload_n 1, 1) := by decide +kernel
theorem d5_5 : decode prog_59_method_2_code 5 = .ok (.iaload, 1) := by decide +kernel
theorem d5_6 : decode prog_59_method_2_code 6 = .ok (.istore_n 2, 1) := by decide +kernel
theorem d5_7 : decode prog_59_method_2_code 7 = .ok (.iload_n 2, 1) := by decide +kernel
theorem d5_8 : decode prog_59_method_2_code 8 = .ok (.aload_n 0, 1) := by decide +kernel
theorem d5_9 : decode prog_59_method_2_code 9 = .ok (.getfield 16, 3) := by decide +kernel
theorem d5_12 : decode prog_59_method_2_code 12 = .ok (.if_icmp .ge 17, 3) := by decide +kernel
theorem d5_15 : decode prog_59_method_2_code 15 = .ok (.aload_n 0, 1) := by decide +kernel
theorem d5_16 : decode prog_59_method_2_code 16 = .ok (.getfield 7, 3) := by decide +kernel
theorem d5_19 : decode prog_59_method_2_code 19 = .ok (.iload_n 2, 1) := by decide +kernel
theorem d5_20 : decode prog_59_method_2_code 20 = .ok (.iaload, 1) := by decide +kernel
theorem d5_21 : decode prog_59_method_2_code 21 = .ok (.iload_n 1, 1) := by decide +kernel
theorem d5_22 : decode prog_59_method_2_code 22 = .ok (.if_icmp .ne 7, 3) := by decide +kernel
theorem d5_25 : decode prog_59_method_2_code 25 = .ok (.iconst 1, 1) := by decide +kernel
theorem d5_26 : decode prog_59_method_2_code 26 = .ok (.goto 4, 3) := by decide +kernel
theorem d5_29 : decode prog_59_method_2_code 29 = .ok (.iconst 0, 1) := by decide +kernel
theorem d5_30 : decode prog_59_method_2_code 30 = .ok (.ireturn, 1) := by decide +kernel
theorem ef_5 (m : MethodId) (a : Addr) (x1 : Int32) : entryFrame m #[(.ref a), (.int x1)] 3 = mkF m 0 #[.val (.ref a), .val (.int x1), .unset] [] := by first | (simp [entryFrame, mkF, argsToLocals, Value.category]; done) | rfl
def Q5 (Z : State) (a : Addr) (x1 : Int32) (am : Addr) (ap : Addr) (km : ClassId) (kp : ClassId) (mf : Nat → Int32) (pf : Nat → Int32) (sz : Int32) (bb : Nat → Bool) (k : Nat) (h0 : Heap) (n0 : Nat) (v : Option Value) (h : Heap) (L : List Loc) : Prop := v = some (.int (own_b (bb k))) ∧ Fr n0 L ∧ h = h0
set_option maxRecDepth 65536 in
set_option maxHeartbeats 40000000 in
theorem rm5 (l : Launch) (Z : State) (a0 : Array Value) (hw : ∀ d ∈ tables_1, d.before a0 Z = true) (a : Addr) (x1 : Int32) (am : Addr) (ap : Addr) (km : ClassId) (kp : ClassId) (mf : Nat → Int32) (pf : Nat → Int32) (sz : Int32) (bb : Nat → Bool) (k : Nat) (h0 : Heap) (n0 : Nat) (Zs : n0 ≤ h0.size) (F_a_members : Fld Z h0 a "com/example/quillon/quillon/ir/TemporarySet" "members" "[I" (.ref am)) (F_a_places : Fld Z h0 a "com/example/quillon/quillon/ir/TemporarySet" "places" "[I" (.ref ap)) (F_a_size : Fld Z h0 a "com/example/quillon/quillon/ir/TemporarySet" "size" "I" (.int sz)) (A_am : AF Z h0 am km .int 4 (fun i => .int (mf i))) (A_ap : AF Z h0 ap kp .int 4 (fun i => .int (pf i))) (hinv : own_inv mf pf sz bb) (hk : k < 4) (hxk : x1 = Int32.ofNat k) :
    Con l Z (⟨"com/example/quillon/quillon/ir/TemporarySet", "contains", "(I)Z"⟩ : MethodName) prog_59_method_2_code 3 (some .boolean) ({ frames := 0, cells := 0, slots := 0, locals := 0 } : Room) #[(.ref a), (.int x1)] h0 (Q5 Z a x1 am ap km kp mf pf sz bb k h0 n0) := by
  refine Con.intro (plainFor_of_name pn0) (fun m => ef_5 m a x1) ?_
  intro p e s m below meth c s₁ hx hby hml0 hZ hown hnm hret hlk X0 e0
  have hml : c.maxLocals = 3 := hml0
  have N0 := Fr.nil n0
  have Kp : Keep h0 h0 [] := Keep.refl h0 _
  show Go _ _ _ _ _ _ _ (s₁.setTop (mkF m 0 #[.val (.ref a), .val (.int x1), .unset] []))
  refine Go.of (fun _ q => XS.aloadN X0.here hx rfl (hb hby d5_0) rfl rfl q) ?_
  show Go _ _ _ _ _ _ _ (s₁.setTop (mkF m 1 #[.val (.ref a), .val (.int x1), .unset] [(.ref a)]))
  obtain ⟨T1, X1, e1, st1⟩ := getF X0 hx hZ hown (host := "") (Or.inl (hw _ (List.mem_of_getElem? (i := 12) rfl))) Via.refl e0 F_a_places (g := (mkF m 1 #[.val (.ref a), .val (.int x1), .unset] [(.ref a)])) rfl rfl (hb hby d5_1)
  refine Go.of st1 ?_
  show Go _ _ _ _ _ _ _ (T1.setTop (mkF m 4 #[.val (.ref a), .val (.int x1), .unset] [(.ref ap)]))
  refine Go.of (fun _ q => XS.iloadN X1.here hx rfl (hb hby d5_4) rfl q) ?_
  show Go _ _ _ _ _ _ _ (T1.setTop (mkF m 5 #[.val (.ref a), .val (.int x1), .unset] [(.int x1), (.ref ap)]))
  refine Go.of (fun _ q => AF.iaload A_ap X1 hx hZ e1 (own_ixk hk hxk) (v := (.int (pf k))) rfl (g := (mkF m 5 #[.val (.ref a), .val (.int x1), .unset] [(.int x1), (.ref ap)])) rfl rfl (hb hby d5_5) q) ?_
  show Go _ _ _ _ _ _ _ (T1.setTop (mkF m 6 #[.val (.ref a), .val (.int x1), .unset] [(.int (pf k))]))
  refine Go.of (fun _ q => XS.istoreN X1.here hx rfl (hb hby d5_6) rfl (l' := #[.val (.ref a), .val (.int x1), .val (.int (pf k))]) rfl q) ?_
  show Go _ _ _ _ _ _ _ (T1.setTop (mkF m 7 #[.val (.ref a), .val (.int x1), .val (.int (pf k))] []))
  refine Go.of (fun _ q => XS.iloadN X1.here hx rfl (hb hby d5_7) rfl q) ?_
  show Go _ _ _ _ _ _ _ (T1.setTop (mkF m 8 #[.val (.ref a), .val (.int x1), .val (.int (pf k))] [(.int (pf k))]))
  refine Go.of (fun _ q => XS.aloadN X1.here hx rfl (hb hby d5_8) rfl rfl q) ?_
  show Go _ _ _ _ _ _ _ (T1.setTop (mkF m 9 #[.val (.ref a), .val (.int x1), .val (.int (pf k))] [(.ref a), (.int (pf k))]))
  obtain ⟨T2, X2, e2, st2⟩ := getF X1 hx hZ hown (host := "") (Or.inl (hw _ (List.mem_of_getElem? (i := 28) rfl))) Via.refl e1 F_a_size (g := (mkF m 9 #[.val (.ref a), .val (.int x1), .val (.int (pf k))] [(.ref a), (.int (pf k))])) rfl rfl (hb hby d5_9)
  refine Go.of st2 ?_
  show Go _ _ _ _ _ _ _ (T2.setTop (mkF m 12 #[.val (.ref a), .val (.int x1), .val (.int (pf k))] [(.int sz), (.int (pf k))]))
  by_cases c12 : (pf k) < sz
  · refine Go.of (fun _ q => XS.icmpNo X2.here hx rfl (hb hby d5_12) rfl (tlt c12).2.1 q) ?_
    show Go _ _ _ _ _ _ _ (T2.setTop (mkF m 15 #[.val (.ref a), .val (.int x1), .val (.int (pf k))] []))
    refine Go.of (fun _ q => XS.aloadN X2.here hx rfl (hb hby d5_15) rfl rfl q) ?_
    show Go _ _ _ _ _ _ _ (T2.setTop (mkF m 16 #[.val (.ref a), .val (.int x1), .val (.int (pf k))] [(.ref a)]))
    obtain ⟨T3, X3, e3, st3⟩ := getF X2 hx hZ hown (host := "") (Or.inl (hw _ (List.mem_of_getElem? (i := 10) rfl))) Via.refl e2 F_a_members (g := (mkF m 16 #[.val (.ref a), .val (.int x1), .val (.int (pf k))] [(.ref a)])) rfl rfl (hb hby d5_16)
    refine Go.of st3 ?_
    show Go _ _ _ _ _ _ _ (T3.setTop (mkF m 19 #[.val (.ref a), .val (.int x1), .val (.int (pf k))] [(.ref am)]))
    refine Go.of (fun _ q => XS.iloadN X3.here hx rfl (hb hby d5_19) rfl q) ?_
    show Go _ _ _ _ _ _ _ (T3.setTop (mkF m 20 #[.val (.ref a), .val (.int x1), .val (.int (pf k))] [(.int (pf k)), (.ref am)]))
    refine Go.of (fun _ q => AF.iaload A_am X3 hx hZ e3 (own_ix (pf k) (hinv.2.1 k hk).1 (hinv.2.1 k hk).2) (v := (.int (mf (pf k).toInt.toNat))) rfl (g := (mkF m 20 #[.val (.ref a), .val (.int x1), .val (.int (pf k))] [(.int (pf k)), (.ref am)])) rfl rfl (hb hby d5_20) q) ?_
    show Go _ _ _ _ _ _ _ (T3.setTop (mkF m 21 #[.val (.ref a), .val (.int x1), .val (.int (pf k))] [(.int (mf (pf k).toInt.toNat))]))
    refine Go.of (fun _ q => XS.iloadN X3.here hx rfl (hb hby d5_21) rfl q) ?_
    show Go _ _ _ _ _ _ _ (T3.setTop (mkF m 22 #[.val (.ref a), .val (.int x1), .val (.int (pf k))] [(.int x1), (.int (mf (pf k).toInt.toNat))]))
    by_cases c22 : (mf (pf k).toInt.toNat) = x1
    · refine Go.of (fun _ q => XS.icmpNo X3.here hx rfl (hb hby d5_22) rfl (teq c22).2 q) ?_
      show Go _ _ _ _ _ _ _ (T3.setTop (mkF m 25 #[.val (.ref a), .val (.int x1), .val (.int (pf k))] []))
      refine Go.of (fun _ q => XS.iconst X3.here hx rfl (hb hby d5_25) q) ?_
      show Go _ _ _ _ _ _ _ (T3.setTop (mkF m 26 #[.val (.ref a), .val (.int x1), .val (.int (pf k))] [(.int (1 : Int32))]))
      refine Go.of (fun _ q => XS.goto X3.here hx rfl (pc0 := 26) (pc' := 30) rfl (hb hby d5_26) (by decide) (by decide) q) ?_
      show Go _ _ _ _ _ _ _ (T3.setTop (mkF m 30 #[.val (.ref a), .val (.int x1), .val (.int (pf k))] [(.int (1 : Int32))]))
      refine Go.retN X3 hx hlk (t := .boolean) hret (by simp) (hb hby d5_30) rfl (by decide) (by decide) ?_
      rw [e3]
      exact ⟨(by rw [own_b, if_pos ((own_has hinv hk x1 hxk).mpr ⟨c12, c22⟩)]), N0, rfl⟩
    · refine Go.of (fun _ q => XS.icmpYes X3.here hx rfl (pc0 := 22) (pc' := 29) rfl (hb hby d5_22) rfl (feq c22).2 (by decide) (by decide) q) ?_
      show Go _ _ _ _ _ _ _ (T3.setTop (mkF m 29 #[.val (.ref a), .val (.int x1), .val (.int (pf k))] []))
      refine Go.of (fun _ q => XS.iconst X3.here hx rfl (hb hby d5_29) q) ?_
      show Go _ _ _ _ _ _ _ (T3.setTop (mkF m 30 #[.val (.ref a), .val (.int x1), .val (.int (pf k))] [(.int (0 : Int32))]))
      refine Go.retN X3 hx hlk (t := .boolean) hret (by simp) (hb hby d5_30) rfl (by decide) (by decide) ?_
      rw [e3]
      exact ⟨(by rw [own_b, if_neg (fun q => c22 ((own_has hinv hk x1 hxk).mp q).2)]), N0, rfl⟩
  · refine Go.of (fun _ q => XS.icmpYes X2.here hx rfl (pc0 := 12) (pc' := 29) rfl (hb hby d5_12) rfl (flt c12).2.1 (by decide) (by decide) q) ?_
    show Go _ _ _ _ _ _ _ (T2.setTop (mkF m 29 #[.val (.ref a), .val (.int x1), .val (.int (pf k))] []))
    refine Go.of (fun _ q => XS.iconst X2.here hx rfl (hb hby d5_29) q) ?_
    show Go _ _ _ _ _ _ _ (T2.setTop (mkF m 30 #[.val (.ref a), .val (.int x1), .val (.int (pf k))] [(.int (0 : Int32))]))
    refine Go.retN X2 hx hlk (t := .boolean) hret (by simp) (hb hby d5_30) rfl (by decide) (by decide) ?_
    rw [e2]
    exact ⟨(by rw [own_b, if_neg (fun q => c12 ((own_has hinv hk x1 hxk).mp q).1)]), N0, rfl⟩
theorem pd0 : parseMethodDescriptor "(I)Z" = some ⟨[.int], some .boolean⟩ := by decide +kernel
theorem d4_0 : decode prog_59_method_5_code 0 = .ok (.aload_n 0, 1) := by decide +kernel
theorem d4_1 : decode prog_59_method_5_code 1 = .ok (.iload_n 1, 1) := by decide +kernel
theorem d4_2 : decode prog_59_method_5_code 2 = .ok (.invokevirtual 26, 3) := by decide +kernel
theorem d4_5 : decode prog_59_method_5_code 5 = .ok (.ifCond .ne 33, 3) := by decide +kernel
theorem d4_8 : decode prog_59_method_5_code 8 = .ok (.aload_n 0, 1) := by decide +kernel
theorem d4_9 : decode prog_59_method_5_code 9 = .ok (.getfield 7, 3) := by decide +kernel
theorem d4_12 : decode prog_59_method_5_code 12 = .ok (.aload_n 0, 1) := by decide +kernel
theorem d4_13 : decode prog_59_method_5_code 13 = .ok (.getfield 16, 3) := by decide +kernel
theorem d4_16 : decode prog_59_method_5_code 16 = .ok (.iload_n 1, 1) := by decide +kernel
theorem d4_17 : decode prog_59_method_5_code 17 = .ok (.iastore, 1) := by decide +kernel
theorem d4_18 : decode prog_59_method_5_code 18 = .ok (.aload_n 0, 1) := by decide +kernel
theorem d4_19 : decode prog_59_method_5_code 19 = .ok (.getfield 13, 3) := by decide +kernel
theorem d4_22 : decode prog_59_method_5_code 22 = .ok (.iload_n 1, 1) := by decide +kernel
theorem d4_23 : decode prog_59_method_5_code 23 = .ok (.aload_n 0, 1) := by decide +kernel
theorem d4_24 : decode prog_59_method_5_code 24 = .ok (.getfield 16, 3) := by decide +kernel
theorem d4_27 : decode prog_59_method_5_code 27 = .ok (.iastore, 1) := by decide +kernel
theorem d4_28 : decode prog_59_method_5_code 28 = .ok (.aload_n 0, 1) := by decide +kernel
theorem d4_29 : decode prog_59_method_5_code 29 = .ok (.dup, 1) := by decide +kernel
theorem d4_30 : decode prog_59_method_5_code 30 = .ok (.getfield 16, 3) := by decide +kernel
theorem d4_33 : decode prog_59_method_5_code 33 = .ok (.iconst 1, 1) := by decide +kernel
theorem d4_34 : decode prog_59_method_5_code 34 = .ok (.iadd, 1) := by decide +kernel
theorem d4_35 : decode prog_59_method_5_code 35 = .ok (.putfield 16, 3) := by decide +kernel
theorem d4_38 : decode prog_59_method_5_code 38 = .ok (.return_, 1) := by decide +kernel
theorem ef_4 (m : MethodId) (a : Addr) (x1 : Int32) : entryFrame m #[(.ref a), (.int x1)] 2 = mkF m 0 #[.val (.ref a), .val (.int x1)] [] := by first | (simp [entryFrame, mkF, argsToLocals, Value.category]; done) | rfl
def Q4 (Z : State) (a : Addr) (x1 : Int32) (am : Addr) (ap : Addr) (km : ClassId) (kp : ClassId) (mf : Nat → Int32) (pf : Nat → Int32) (sz : Int32) (bb : Nat → Bool) (k : Nat) (h0 : Heap) (n0 : Nat) (v : Option Value) (h : Heap) (L : List Loc) : Prop := ∃ mq : Nat → Int32, ∃ pq : Nat → Int32, ∃ sq : Int32, v = none ∧ Fr n0 L ∧ Keep h0 h [a, am, ap] ∧ Exa Z h a "com/example/quillon/quillon/ir/TemporarySet" ∧ Fld Z h a "com/example/quillon/quillon/ir/TemporarySet" "members" "[I" (.ref am) ∧ Fld Z h a "com/example/quillon/quillon/ir/TemporarySet" "places" "[I" (.ref ap) ∧ Fld Z h a "com/example/quillon/quillon/ir/TemporarySet" "size" "I" (.int sq) ∧ AF Z h am km .int 4 (fun i => .int (mq i)) ∧ AF Z h ap kp .int 4 (fun i => .int (pq i)) ∧ own_inv mq pq sq (fun i => i == k || bb i)
set_option maxRecDepth 65536 in
set_option maxHeartbeats 40000000 in
theorem rm4 (l : Launch) (Z : State) (a0 : Array Value) (hw : ∀ d ∈ tables_1, d.before a0 Z = true) (a : Addr) (x1 : Int32) (am : Addr) (ap : Addr) (km : ClassId) (kp : ClassId) (mf : Nat → Int32) (pf : Nat → Int32) (sz : Int32) (bb : Nat → Bool) (k : Nat) (h0 : Heap) (n0 : Nat) (Zs : n0 ≤ h0.size) (E_a : Exa Z h0 a "com/example/quillon/quillon/ir/TemporarySet") (F_a_members : Fld Z h0 a "com/example/quillon/quillon/ir/TemporarySet" "members" "[I" (.ref am)) (F_a_places : Fld Z h0 a "com/example/quillon/quillon/ir/TemporarySet" "places" "[I" (.ref ap)) (F_a_size : Fld Z h0 a "com/example/quillon/quillon/ir/TemporarySet" "size" "I" (.int sz)) (A_am : AF Z h0 am km .int 4 (fun i => .int (mf i))) (A_ap : AF Z h0 ap kp .int 4 (fun i => .int (pf i))) (g_a : n0 ≤ a) (g_am : n0 ≤ am) (g_ap : n0 ≤ ap) (ne_a_am : a ≠ am) (ne_a_ap : a ≠ ap) (ne_am_ap : am ≠ ap) (hinv : own_inv mf pf sz bb) (hk : k < 4) (hxk : x1 = Int32.ofNat k) :
    Con l Z (⟨"com/example/quillon/quillon/ir/TemporarySet", "add", "(I)V"⟩ : MethodName) prog_59_method_5_code 2 none ({ frames := 1, cells := 0, slots := 0, locals := 14 } : Room) #[(.ref a), (.int x1)] h0 (Q4 Z a x1 am ap km kp mf pf sz bb k h0 n0) := by
  refine Con.intro (plainFor_of_name pn0) (fun m => ef_4 m a x1) ?_
  intro p e s m below meth c s₁ hx hby hml0 hZ hown hnm hret hlk X0 e0
  have hml : c.maxLocals = 2 := hml0
  have N0 := Fr.nil n0
  have Kp : Keep h0 h0 [a, am, ap] := Keep.refl h0 _
  show Go _ _ _ _ _ _ _ (s₁.setTop (mkF m 0 #[.val (.ref a), .val (.int x1)] []))
  refine Go.of (fun _ q => XS.aloadN X0.here hx rfl (hb hby d4_0) rfl rfl q) ?_
  show Go _ _ _ _ _ _ _ (s₁.setTop (mkF m 1 #[.val (.ref a), .val (.int x1)] [(.ref a)]))
  refine Go.of (fun _ q => XS.iloadN X0.here hx rfl (hb hby d4_1) rfl q) ?_
  show Go _ _ _ _ _ _ _ (s₁.setTop (mkF m 2 #[.val (.ref a), .val (.int x1)] [(.int x1), (.ref a)]))
  refine Go.virtual X0 hx hZ (y := (⟨"com/example/quillon/quillon/ir/TemporarySet", "contains", "(I)Z"⟩ : MethodName)) (z := (⟨"com/example/quillon/quillon/ir/TemporarySet", "contains", "(I)Z"⟩ : MethodName)) (a := a) (argsL := [(.int x1)]) hown (hw _ (List.mem_of_getElem? (i := 23) rfl)) (hw _ (List.mem_of_getElem? (i := 24) rfl)) (notFace_of_selects (args := #[]) (mvT hZ (hw _ (List.mem_of_getElem? (i := 26) rfl)))) (hw _ (List.mem_of_getElem? (i := 26) rfl)) (hw _ (List.mem_of_getElem? (i := 25) rfl)) (hw _ (List.mem_of_getElem? (i := 2) rfl)) (hw _ (List.mem_of_getElem? (i := 27) rfl)) (by decide) 0 e0 E_a (rm5 l Z a0 hw a x1 am ap km kp mf pf sz bb k h0 n0 Zs F_a_members F_a_places F_a_size A_am A_ap hinv hk hxk) (by decide) (by decide) (by decide) (by decide) (g := (mkF m 2 #[.val (.ref a), .val (.int x1)] [(.int x1), (.ref a)])) rfl (by rw [hml]; rfl) (rest := []) (lenOf pd0 rfl) rfl (by show 2 * 0 + _ ≤ _; exact Nat.le_of_eq rfl) (hb hby d4_2) ?_
  intro T1 v1 L1 X1 q1
  obtain ⟨rfl, Nq1, e1⟩ := q1
  have N1 := Fr.app N0 Nq1
  show Go _ _ _ _ _ _ _ (T1.setTop (mkF m 5 #[.val (.ref a), .val (.int x1)] [(.int (own_b (bb k)))]))
  by_cases c5 : (own_b (bb k)) = (0 : Int32)
  · refine Go.of (fun _ q => XS.ifNo X1.here hx rfl (hb hby d4_5) rfl ((if0 _ _).trans (teq c5).2) q) ?_
    show Go _ _ _ _ _ _ _ (T1.setTop (mkF m 8 #[.val (.ref a), .val (.int x1)] []))
    refine Go.of (fun _ q => XS.aloadN X1.here hx rfl (hb hby d4_8) rfl rfl q) ?_
    show Go _ _ _ _ _ _ _ (T1.setTop (mkF m 9 #[.val (.ref a), .val (.int x1)] [(.ref a)]))
    obtain ⟨T2, X2, e2, st2⟩ := getF X1 hx hZ hown (host := "") (Or.inl (hw _ (List.mem_of_getElem? (i := 10) rfl))) Via.refl e1 F_a_members (g := (mkF m 9 #[.val (.ref a), .val (.int x1)] [(.ref a)])) rfl rfl (hb hby d4_9)
    refine Go.of st2 ?_
    show Go _ _ _ _ _ _ _ (T2.setTop (mkF m 12 #[.val (.ref a), .val (.int x1)] [(.ref am)]))
    refine Go.of (fun _ q => XS.aloadN X2.here hx rfl (hb hby d4_12) rfl rfl q) ?_
    show Go _ _ _ _ _ _ _ (T2.setTop (mkF m 13 #[.val (.ref a), .val (.int x1)] [(.ref a), (.ref am)]))
    obtain ⟨T3, X3, e3, st3⟩ := getF X2 hx hZ hown (host := "") (Or.inl (hw _ (List.mem_of_getElem? (i := 28) rfl))) Via.refl e2 F_a_size (g := (mkF m 13 #[.val (.ref a), .val (.int x1)] [(.ref a), (.ref am)])) rfl rfl (hb hby d4_13)
    refine Go.of st3 ?_
    show Go _ _ _ _ _ _ _ (T3.setTop (mkF m 16 #[.val (.ref a), .val (.int x1)] [(.int sz), (.ref am)]))
    refine Go.of (fun _ q => XS.iloadN X3.here hx rfl (hb hby d4_16) rfl q) ?_
    show Go _ _ _ _ _ _ _ (T3.setTop (mkF m 17 #[.val (.ref a), .val (.int x1)] [(.int x1), (.int sz), (.ref am)]))
    obtain ⟨T4, h4, X4, e4, W4, A4', st4⟩ := AF.iastore A_am X3 hx hZ e3 (i := sz.toInt.toNat) (own_ix sz hinv.1.1 (own_room hinv hk (own_bf c5))) (g := (mkF m 17 #[.val (.ref a), .val (.int x1)] [(.int x1), (.int sz), (.ref am)])) rfl rfl (hb hby d4_17)
    refine Go.of st4 ?_
    have Zs := Nat.le_trans Zs (Nat.le_of_eq W4.size.symm)
    have Kp := Kp.wr W4 (Or.inl (List.mem_of_getElem? (i := 1) rfl))
    have E_a := E_a.wr W4
    have F_a_members := F_a_members.other W4 (Or.inl ne_a_am)
    have F_a_places := F_a_places.other W4 (Or.inl ne_a_am)
    have F_a_size := F_a_size.other W4 (Or.inl ne_a_am)
    have A_ap := A_ap.other W4 (Ne.symm ne_am_ap)
    have A_am : AF Z h4 am km .int 4 (fun i => .int ((upI mf sz.toInt.toNat x1) i)) := A4'.toI
    have N4 := Fr.snoc X4 N1 g_am
    show Go _ _ _ _ _ _ _ (T4.setTop (mkF m 18 #[.val (.ref a), .val (.int x1)] []))
    refine Go.of (fun _ q => XS.aloadN X4.here hx rfl (hb hby d4_18) rfl rfl q) ?_
    show Go _ _ _ _ _ _ _ (T4.setTop (mkF m 19 #[.val (.ref a), .val (.int x1)] [(.ref a)]))
    obtain ⟨T5, X5, e5, st5⟩ := getF X4 hx hZ hown (host := "") (Or.inl (hw _ (List.mem_of_getElem? (i := 12) rfl))) Via.refl e4 F_a_places (g := (mkF m 19 #[.val (.ref a), .val (.int x1)] [(.ref a)])) rfl rfl (hb hby d4_19)
    refine Go.of st5 ?_
    show Go _ _ _ _ _ _ _ (T5.setTop (mkF m 22 #[.val (.ref a), .val (.int x1)] [(.ref ap)]))
    refine Go.of (fun _ q => XS.iloadN X5.here hx rfl (hb hby d4_22) rfl q) ?_
    show Go _ _ _ _ _ _ _ (T5.setTop (mkF m 23 #[.val (.ref a), .val (.int x1)] [(.int x1), (.ref ap)]))
    refine Go.of (fun _ q => XS.aloadN X5.here hx rfl (hb hby d4_23) rfl rfl q) ?_
    show Go _ _ _ _ _ _ _ (T5.setTop (mkF m 24 #[.val (.ref a), .val (.int x1)] [(.ref a), (.int x1), (.ref ap)]))
    obtain ⟨T6, X6, e6, st6⟩ := getF X5 hx hZ hown (host := "") (Or.inl (hw _ (List.mem_of_getElem? (i := 28) rfl))) Via.refl e5 F_a_size (g := (mkF m 24 #[.val (.ref a), .val (.int x1)] [(.ref a), (.int x1), (.ref ap)])) rfl rfl (hb hby d4_24)
    refine Go.of st6 ?_
    show Go _ _ _ _ _ _ _ (T6.setTop (mkF m 27 #[.val (.ref a), .val (.int x1)] [(.int sz), (.int x1), (.ref ap)]))
    obtain ⟨T7, h7, X7, e7, W7, A7', st7⟩ := AF.iastore A_ap X6 hx hZ e6 (i := k) (own_ixk hk hxk) (g := (mkF m 27 #[.val (.ref a), .val (.int x1)] [(.int sz), (.int x1), (.ref ap)])) rfl rfl (hb hby d4_27)
    refine Go.of st7 ?_
    have Zs := Nat.le_trans Zs (Nat.le_of_eq W7.size.symm)
    have Kp := Kp.wr W7 (Or.inl (List.mem_of_getElem? (i := 2) rfl))
    have E_a := E_a.wr W7
    have F_a_members := F_a_members.other W7 (Or.inl ne_a_ap)
    have F_a_places := F_a_places.other W7 (Or.inl ne_a_ap)
    have F_a_size := F_a_size.other W7 (Or.inl ne_a_ap)
    have A_am := A_am.other W7 ne_am_ap
    have A_ap : AF Z h7 ap kp .int 4 (fun i => .int ((upI pf k sz) i)) := A7'.toI
    have N7 := Fr.snoc X7 N4 g_ap
    show Go _ _ _ _ _ _ _ (T7.setTop (mkF m 28 #[.val (.ref a), .val (.int x1)] []))
    refine Go.of (fun _ q => XS.aloadN X7.here hx rfl (hb hby d4_28) rfl rfl q) ?_
    show Go _ _ _ _ _ _ _ (T7.setTop (mkF m 29 #[.val (.ref a), .val (.int x1)] [(.ref a)]))
    refine Go.of (fun _ q => XS.dup X7.here hx rfl (hb hby d4_29) rfl rfl q) ?_
    show Go _ _ _ _ _ _ _ (T7.setTop (mkF m 30 #[.val (.ref a), .val (.int x1)] [(.ref a), (.ref a)]))
    obtain ⟨T8, X8, e8, st8⟩ := getF X7 hx hZ hown (host := "") (Or.inl (hw _ (List.mem_of_getElem? (i := 28) rfl))) Via.refl e7 F_a_size (g := (mkF m 30 #[.val (.ref a), .val (.int x1)] [(.ref a), (.ref a)])) rfl rfl (hb hby d4_30)
    refine Go.of st8 ?_
    show Go _ _ _ _ _ _ _ (T8.setTop (mkF m 33 #[.val (.ref a), .val (.int x1)] [(.int sz), (.ref a)]))
    refine Go.of (fun _ q => XS.iconst X8.here hx rfl (hb hby d4_33) q) ?_
    show Go _ _ _ _ _ _ _ (T8.setTop (mkF m 34 #[.val (.ref a), .val (.int x1)] [(.int (1 : Int32)), (.int sz), (.ref a)]))
    refine Go.of (fun _ q => XS.iadd X8.here hx rfl (hb hby d4_34) rfl q) ?_
    show Go _ _ _ _ _ _ _ (T8.setTop (mkF m 35 #[.val (.ref a), .val (.int x1)] [(.int (sz + (1 : Int32))), (.ref a)]))
    obtain ⟨T9, h9, X9, e9, W9, st9⟩ := putF X8 hx hZ hown (host := "") (Or.inl (hw _ (List.mem_of_getElem? (i := 28) rfl))) Via.refl e8 F_a_size E_a (Or.inl (hw _ (List.mem_of_getElem? (i := 29) rfl))) (hw _ (List.mem_of_getElem? (i := 1) rfl)) (ty := .int) (by decide) rfl rfl (g := (mkF m 35 #[.val (.ref a), .val (.int x1)] [(.int (sz + (1 : Int32))), (.ref a)])) rfl rfl (hb hby d4_35)
    refine Go.of st9 ?_
    have Zs := Nat.le_trans Zs (Nat.le_of_eq W9.size.symm)
    have Kp := Kp.wr W9 (Or.inl (List.mem_of_getElem? (i := 0) rfl))
    have E_a := E_a.wr W9
    have F_a_members := F_a_members.other W9 (Or.inr (slot_ne (Or.inr (hw _ (List.mem_of_getElem? (i := 11) rfl))) (Or.inl (hw _ (List.mem_of_getElem? (i := 29) rfl))) (by decide) (t := (.array .int)) (t' := .int) (by decide) (by decide)))
    have F_a_places := F_a_places.other W9 (Or.inr (slot_ne (Or.inr (hw _ (List.mem_of_getElem? (i := 13) rfl))) (Or.inl (hw _ (List.mem_of_getElem? (i := 29) rfl))) (by decide) (t := (.array .int)) (t' := .int) (by decide) (by decide)))
    have F_a_size := F_a_size.same W9
    have A_am := A_am.other W9 (Ne.symm ne_a_am)
    have A_ap := A_ap.other W9 (Ne.symm ne_a_ap)
    have N9 := Fr.snoc X9 N7 g_a
    show Go _ _ _ _ _ _ _ (T9.setTop (mkF m 38 #[.val (.ref a), .val (.int x1)] []))
    refine Go.retV X9 hx hlk hret (hb hby d4_38) (by decide) (by decide) ?_
    rw [e9]
    exact ⟨(upI mf sz.toInt.toNat x1), (upI pf k sz), (sz + (1 : Int32)), rfl, N9, Kp, E_a, F_a_members, F_a_places, F_a_size, A_am, A_ap, (own_add hinv hk (own_bf c5) x1 (own_toInt hk hxk))⟩
  · refine Go.of (fun _ q => XS.ifYes X1.here hx rfl (pc0 := 5) (pc' := 38) rfl (hb hby d4_5) rfl ((if0 _ _).trans (feq c5).2) (by decide) (by decide) q) ?_
    show Go _ _ _ _ _ _ _ (T1.setTop (mkF m 38 #[.val (.ref a), .val (.int x1)] []))
    refine Go.retV X1 hx hlk hret (hb hby d4_38) (by decide) (by decide) ?_
    rw [e1]
    exact ⟨mf, pf, sz, rfl, N1, Kp, E_a, F_a_members, F_a_places, F_a_size, A_am, A_ap, (own_inv_cast hinv (fun n _ => own_same (own_bt c5) n))⟩
theorem d6_0 : decode prog_59_method_6_code 0 = .ok (.aload_n 0, 1) := by decide +kernel
theorem d6_1 : decode prog_59_method_6_code 1 = .ok (.iload_n 1, 1) := by decide +kernel
theorem d6_2 : decode prog_59_method_6_code 2 = .ok (.invokevirtual 26, 3) := by decide +kernel
theorem d6_5 : decode prog_59_method_6_code 5 = .ok (.ifCond .eq 47, 3) := by decide +kernel
theorem d6_8 : decode prog_59_method_6_code 8 = .ok (.aload_n 0, 1) := by decide +kernel
theorem d6_9 : decode prog_59_method_6_code 9 = .ok (.getfield 13, 3) := by decide +kernel
theorem d6_12 : decode prog_59_method_6_code 12 = .ok (.iload_n 1, 1) := by decide +kernel
theorem d6_13 : decode prog_59_method_6_code 13 = .ok (.iaload, 1) := by decide +kernel
theorem d6_14 : decode prog_59_method_6_code 14 = .ok (.istore_n 2, 1) := by decide +kernel
theorem d6_15 : decode prog_59_method_6_code 15 = .ok (.aload_n 0, 1) := by decide +kernel
theorem d6_16 : decode prog_59_method_6_code 16 = .ok (.dup, 1) := by decide +kernel
theorem d6_17 : decode prog_59_method_6_code 17 = .ok (.getfield 16, 3) := by decide +kernel
theorem d6_20 : decode prog_59_method_6_code 20 = .ok (.iconst 1, 1) := by decide +kernel
theorem d6_21 : decode prog_59_method_6_code 21 = .ok (.isub, 1) := by decide +kernel
theorem d6_22 : decode prog_59_method_6_code 22 = .ok (.putfield 16, 3) := by decide +kernel
theorem d6_25 : decode prog_59_method_6_code 25 = .ok (.aload_n 0, 1) := by decide +kernel
theorem d6_26 : decode prog_59_method_6_code 26 = .ok (.getfield 7, 3) := by decide +kernel
theorem d6_29 : decode prog_59_method_6_code 29 = .ok (.iload_n 2, 1) := by decide +kernel
theorem d6_30 : decode prog_59_method_6_code 30 = .ok (.aload_n 0, 1) := by decide +kernel
theorem d6_31 : decode prog_59_method_6_code 31 = .ok (.getfield 7, 3) := by decide +kernel
theorem d6_34 : decode prog_59_method_6_code 34 = .ok (.aload_n 0, 1) := by decide +kernel
theorem d6_35 : decode prog_59_method_6_code 35 = .ok (.getfield 16, 3) := by decide +kernel
theorem d6_38 : decode prog_59_method_6_code 38 = .ok (.iaload, 1) := by decide +kernel
theorem d6_39 : decode prog_59_method_6_code 39 = .ok (.iastore, 1) := by decide +kernel
theorem d6_40 : decode prog_59_method_6_code 40 = .ok (.aload_n 0, 1) := by decide +kernel
theorem d6_41 : decode prog_59_method_6_code 41 = .ok (.getfield 13, 3) := by decide +kernel
theorem d6_44 : decode prog_59_method_6_code 44 = .ok (.aload_n 0, 1) := by decide +kernel
theorem d6_45 : decode prog_59_method_6_code 45 = .ok (.getfield 7, 3) := by decide +kernel
theorem d6_48 : decode prog_59_method_6_code 48 = .ok (.iload_n 2, 1) := by decide +kernel
theorem d6_49 : decode prog_59_method_6_code 49 = .ok (.iaload, 1) := by decide +kernel
theorem d6_50 : decode prog_59_method_6_code 50 = .ok (.iload_n 2, 1) := by decide +kernel
theorem d6_51 : decode prog_59_method_6_code 51 = .ok (.iastore, 1) := by decide +kernel
theorem d6_52 : decode prog_59_method_6_code 52 = .ok (.return_, 1) := by decide +kernel
theorem ef_6 (m : MethodId) (a : Addr) (x1 : Int32) : entryFrame m #[(.ref a), (.int x1)] 3 = mkF m 0 #[.val (.ref a), .val (.int x1), .unset] [] := by first | (simp [entryFrame, mkF, argsToLocals, Value.category]; done) | rfl
def Q6 (Z : State) (a : Addr) (x1 : Int32) (am : Addr) (ap : Addr) (km : ClassId) (kp : ClassId) (mf : Nat → Int32) (pf : Nat → Int32) (sz : Int32) (bb : Nat → Bool) (k : Nat) (h0 : Heap) (n0 : Nat) (v : Option Value) (h : Heap) (L : List Loc) : Prop := ∃ mq : Nat → Int32, ∃ pq : Nat → Int32, ∃ sq : Int32, v = none ∧ Fr n0 L ∧ Keep h0 h [a, am, ap] ∧ Exa Z h a "com/example/quillon/quillon/ir/TemporarySet" ∧ Fld Z h a "com/example/quillon/quillon/ir/TemporarySet" "members" "[I" (.ref am) ∧ Fld Z h a "com/example/quillon/quillon/ir/TemporarySet" "places" "[I" (.ref ap) ∧ Fld Z h a "com/example/quillon/quillon/ir/TemporarySet" "size" "I" (.int sq) ∧ AF Z h am km .int 4 (fun i => .int (mq i)) ∧ AF Z h ap kp .int 4 (fun i => .int (pq i)) ∧ own_inv mq pq sq (fun i => bb i && !(i == k))
set_option maxRecDepth 65536 in
set_option maxHeartbeats 40000000 in
theorem rm6 (l : Launch) (Z : State) (a0 : Array Value) (hw : ∀ d ∈ tables_1, d.before a0 Z = true) (a : Addr) (x1 : Int32) (am : Addr) (ap : Addr) (km : ClassId) (kp : ClassId) (mf : Nat → Int32) (pf : Nat → Int32) (sz : Int32) (bb : Nat → Bool) (k : Nat) (h0 : Heap) (n0 : Nat) (Zs : n0 ≤ h0.size) (E_a : Exa Z h0 a "com/example/quillon/quillon/ir/TemporarySet") (F_a_members : Fld Z h0 a "com/example/quillon/quillon/ir/TemporarySet" "members" "[I" (.ref am)) (F_a_places : Fld Z h0 a "com/example/quillon/quillon/ir/TemporarySet" "places" "[I" (.ref ap)) (F_a_size : Fld Z h0 a "com/example/quillon/quillon/ir/TemporarySet" "size" "I" (.int sz)) (A_am : AF Z h0 am km .int 4 (fun i => .int (mf i))) (A_ap : AF Z h0 ap kp .int 4 (fun i => .int (pf i))) (g_a : n0 ≤ a) (g_am : n0 ≤ am) (g_ap : n0 ≤ ap) (ne_a_am : a ≠ am) (ne_a_ap : a ≠ ap) (ne_am_ap : am ≠ ap) (hinv : own_inv mf pf sz bb) (hk : k < 4) (hxk : x1 = Int32.ofNat k) :
    Con l Z (⟨"com/example/quillon/quillon/ir/TemporarySet", "remove", "(I)V"⟩ : MethodName) prog_59_method_6_code 3 none ({ frames := 1, cells := 0, slots := 0, locals := 14 } : Room) #[(.ref a), (.int x1)] h0 (Q6 Z a x1 am ap km kp mf pf sz bb k h0 n0) := by
  refine Con.intro (plainFor_of_name pn0) (fun m => ef_6 m a x1) ?_
  intro p e s m below meth c s₁ hx hby hml0 hZ hown hnm hret hlk X0 e0
  have hml : c.maxLocals = 3 := hml0
  have N0 := Fr.nil n0
  have Kp : Keep h0 h0 [a, am, ap] := Keep.refl h0 _
  show Go _ _ _ _ _ _ _ (s₁.setTop (mkF m 0 #[.val (.ref a), .val (.int x1), .unset] []))
  refine Go.of (fun _ q => XS.aloadN X0.here hx rfl (hb hby d6_0) rfl rfl q) ?_
  show Go _ _ _ _ _ _ _ (s₁.setTop (mkF m 1 #[.val (.ref a), .val (.int x1), .unset] [(.ref a)]))
  refine Go.of (fun _ q => XS.iloadN X0.here hx rfl (hb hby d6_1) rfl q) ?_
  show Go _ _ _ _ _ _ _ (s₁.setTop (mkF m 2 #[.val (.ref a), .val (.int x1), .unset] [(.int x1), (.ref a)]))
  refine Go.virtual X0 hx hZ (y := (⟨"com/example/quillon/quillon/ir/TemporarySet", "contains", "(I)Z"⟩ : MethodName)) (z := (⟨"com/example/quillon/quillon/ir/TemporarySet", "contains", "(I)Z"⟩ : MethodName)) (a := a) (argsL := [(.int x1)]) hown (hw _ (List.mem_of_getElem? (i := 23) rfl)) (hw _ (List.mem_of_getElem? (i := 24) rfl)) (notFace_of_selects (args := #[]) (mvT hZ (hw _ (List.mem_of_getElem? (i := 26) rfl)))) (hw _ (List.mem_of_getElem? (i := 26) rfl)) (hw _ (List.mem_of_getElem? (i := 25) rfl)) (hw _ (List.mem_of_getElem? (i := 2) rfl)) (hw _ (List.mem_of_getElem? (i := 27) rfl)) (by decide) 0 e0 E_a (rm5 l Z a0 hw a x1 am ap km kp mf pf sz bb k h0 n0 Zs F_a_members F_a_places F_a_size A_am A_ap hinv hk hxk) (by decide) (by decide) (by decide) (by decide) (g := (mkF m 2 #[.val (.ref a), .val (.int x1), .unset] [(.int x1), (.ref a)])) rfl (by rw [hml]; rfl) (rest := []) (lenOf pd0 rfl) rfl (by show 2 * 0 + _ ≤ _; exact Nat.le_of_eq rfl) (hb hby d6_2) ?_
  intro T1 v1 L1 X1 q1
  obtain ⟨rfl, Nq1, e1⟩ := q1
  have N1 := Fr.app N0 Nq1
  show Go _ _ _ _ _ _ _ (T1.setTop (mkF m 5 #[.val (.ref a), .val (.int x1), .unset] [(.int (own_b (bb k)))]))
  by_cases c5 : (own_b (bb k)) = (0 : Int32)
  · refine Go.of (fun _ q => XS.ifYes X1.here hx rfl (pc0 := 5) (pc' := 52) rfl (hb hby d6_5) rfl ((if0 _ _).trans (teq c5).1) (by decide) (by decide) q) ?_
    show Go _ _ _ _ _ _ _ (T1.setTop (mkF m 52 #[.val (.ref a), .val (.int x1), .unset] []))
    refine Go.retV X1 hx hlk hret (hb hby d6_52) (by decide) (by decide) ?_
    rw [e1]
    exact ⟨mf, pf, sz, rfl, N1, Kp, E_a, F_a_members, F_a_places, F_a_size, A_am, A_ap, (own_inv_cast hinv (fun n _ => own_same' (own_bf c5) n))⟩
  · refine Go.of (fun _ q => XS.ifNo X1.here hx rfl (hb hby d6_5) rfl ((if0 _ _).trans (feq c5).1) q) ?_
    show Go _ _ _ _ _ _ _ (T1.setTop (mkF m 8 #[.val (.ref a), .val (.int x1), .unset] []))
    refine Go.of (fun _ q => XS.aloadN X1.here hx rfl (hb hby d6_8) rfl rfl q) ?_
    show Go _ _ _ _ _ _ _ (T1.setTop (mkF m 9 #[.val (.ref a), .val (.int x1), .unset] [(.ref a)]))
    obtain ⟨T2, X2, e2, st2⟩ := getF X1 hx hZ hown (host := "") (Or.inl (hw _ (List.mem_of_getElem? (i := 12) rfl))) Via.refl e1 F_a_places (g := (mkF m 9 #[.val (.ref a), .val (.int x1), .unset] [(.ref a)])) rfl rfl (hb hby d6_9)
    refine Go.of st2 ?_
    show Go _ _ _ _ _ _ _ (T2.setTop (mkF m 12 #[.val (.ref a), .val (.int x1), .unset] [(.ref ap)]))
    refine Go.of (fun _ q => XS.iloadN X2.here hx rfl (hb hby d6_12) rfl q) ?_
    show Go _ _ _ _ _ _ _ (T2.setTop (mkF m 13 #[.val (.ref a), .val (.int x1), .unset] [(.int x1), (.ref ap)]))
    refine Go.of (fun _ q => AF.iaload A_ap X2 hx hZ e2 (own_ixk hk hxk) (v := (.int (pf k))) rfl (g := (mkF m 13 #[.val (.ref a), .val (.int x1), .unset] [(.int x1), (.ref ap)])) rfl rfl (hb hby d6_13) q) ?_
    show Go _ _ _ _ _ _ _ (T2.setTop (mkF m 14 #[.val (.ref a), .val (.int x1), .unset] [(.int (pf k))]))
    refine Go.of (fun _ q => XS.istoreN X2.here hx rfl (hb hby d6_14) rfl (l' := #[.val (.ref a), .val (.int x1), .val (.int (pf k))]) rfl q) ?_
    show Go _ _ _ _ _ _ _ (T2.setTop (mkF m 15 #[.val (.ref a), .val (.int x1), .val (.int (pf k))] []))
    refine Go.of (fun _ q => XS.aloadN X2.here hx rfl (hb hby d6_15) rfl rfl q) ?_
    show Go _ _ _ _ _ _ _ (T2.setTop (mkF m 16 #[.val (.ref a), .val (.int x1), .val (.int (pf k))] [(.ref a)]))
    refine Go.of (fun _ q => XS.dup X2.here hx rfl (hb hby d6_16) rfl rfl q) ?_
    show Go _ _ _ _ _ _ _ (T2.setTop (mkF m 17 #[.val (.ref a), .val (.int x1), .val (.int (pf k))] [(.ref a), (.ref a)]))
    obtain ⟨T3, X3, e3, st3⟩ := getF X2 hx hZ hown (host := "") (Or.inl (hw _ (List.mem_of_getElem? (i := 28) rfl))) Via.refl e2 F_a_size (g := (mkF m 17 #[.val (.ref a), .val (.int x1), .val (.int (pf k))] [(.ref a), (.ref a)])) rfl rfl (hb hby d6_17)
    refine Go.of st3 ?_
    show Go _ _ _ _ _ _ _ (T3.setTop (mkF m 20 #[.val (.ref a), .val (.int x1), .val (.int (pf k))] [(.int sz), (.ref a)]))
    refine Go.of (fun _ q => XS.iconst X3.here hx rfl (hb hby d6_20) q) ?_
    show Go _ _ _ _ _ _ _ (T3.setTop (mkF m 21 #[.val (.ref a), .val (.int x1), .val (.int (pf k))] [(.int (1 : Int32)), (.int sz), (.ref a)]))
    refine Go.of (fun _ q => XS.isub X3.here hx rfl (hb hby d6_21) rfl q) ?_
    show Go _ _ _ _ _ _ _ (T3.setTop (mkF m 22 #[.val (.ref a), .val (.int x1), .val (.int (pf k))] [(.int (sz - (1 : Int32))), (.ref a)]))
    obtain ⟨T4, h4, X4, e4, W4, st4⟩ := putF X3 hx hZ hown (host := "") (Or.inl (hw _ (List.mem_of_getElem? (i := 28) rfl))) Via.refl e3 F_a_size E_a (Or.inl (hw _ (List.mem_of_getElem? (i := 29) rfl))) (hw _ (List.mem_of_getElem? (i := 1) rfl)) (ty := .int) (by decide) rfl rfl (g := (mkF m 22 #[.val (.ref a), .val (.int x1), .val (.int (pf k))] [(.int (sz - (1 : Int32))), (.ref a)])) rfl rfl (hb hby d6_22)
    refine Go.of st4 ?_
    have Zs := Nat.le_trans Zs (Nat.le_of_eq W4.size.symm)
    have Kp := Kp.wr W4 (Or.inl (List.mem_of_getElem? (i := 0) rfl))
    have E_a := E_a.wr W4
    have F_a_members := F_a_members.other W4 (Or.inr (slot_ne (Or.inr (hw _ (List.mem_of_getElem? (i := 11) rfl))) (Or.inl (hw _ (List.mem_of_getElem? (i := 29) rfl))) (by decide) (t := (.array .int)) (t' := .int) (by decide) (by decide)))
    have F_a_places := F_a_places.other W4 (Or.inr (slot_ne (Or.inr (hw _ (List.mem_of_getElem? (i := 13) rfl))) (Or.inl (hw _ (List.mem_of_getElem? (i := 29) rfl))) (by decide) (t := (.array .int)) (t' := .int) (by decide) (by decide)))
    have F_a_size := F_a_size.same W4
    have A_am := A_am.other W4 (Ne.symm ne_a_am)
    have A_ap := A_ap.other W4 (Ne.symm ne_a_ap)
    have N4 := Fr.snoc X4 N1 g_a
    show Go _ _ _ _ _ _ _ (T4.setTop (mkF m 25 #[.val (.ref a), .val (.int x1), .val (.int (pf k))] []))
    refine Go.of (fun _ q => XS.aloadN X4.here hx rfl (hb hby d6_25) rfl rfl q) ?_
    show Go _ _ _ _ _ _ _ (T4.setTop (mkF m 26 #[.val (.ref a), .val (.int x1), .val (.int (pf k))] [(.ref a)]))
    obtain ⟨T5, X5, e5, st5⟩ := getF X4 hx hZ hown (host := "") (Or.inl (hw _ (List.mem_of_getElem? (i := 10) rfl))) Via.refl e4 F_a_members (g := (mkF m 26 #[.val (.ref a), .val (.int x1), .val (.int (pf k))] [(.ref a)])) rfl rfl (hb hby d6_26)
    refine Go.of st5 ?_
    show Go _ _ _ _ _ _ _ (T5.setTop (mkF m 29 #[.val (.ref a), .val (.int x1), .val (.int (pf k))] [(.ref am)]))
    refine Go.of (fun _ q => XS.iloadN X5.here hx rfl (hb hby d6_29) rfl q) ?_
    show Go _ _ _ _ _ _ _ (T5.setTop (mkF m 30 #[.val (.ref a), .val (.int x1), .val (.int (pf k))] [(.int (pf k)), (.ref am)]))
    refine Go.of (fun _ q => XS.aloadN X5.here hx rfl (hb hby d6_30) rfl rfl q) ?_
    show Go _ _ _ _ _ _ _ (T5.setTop (mkF m 31 #[.val (.ref a), .val (.int x1), .val (.int (pf k))] [(.ref a), (.int (pf k)), (.ref am)]))
    obtain ⟨T6, X6, e6, st6⟩ := getF X5 hx hZ hown (host := "") (Or.inl (hw _ (List.mem_of_getElem? (i := 10) rfl))) Via.refl e5 F_a_members (g := (mkF m 31 #[.val (.ref a), .val (.int x1), .val (.int (pf k))] [(.ref a), (.int (pf k)), (.ref am)])) rfl rfl (hb hby d6_31)
    refine Go.of st6 ?_
    show Go _ _ _ _ _ _ _ (T6.setTop (mkF m 34 #[.val (.ref a), .val (.int x1), .val (.int (pf k))] [(.ref am), (.int (pf k)), (.ref am)]))
    refine Go.of (fun _ q => XS.aloadN X6.here hx rfl (hb hby d6_34) rfl rfl q) ?_
    show Go _ _ _ _ _ _ _ (T6.setTop (mkF m 35 #[.val (.ref a), .val (.int x1), .val (.int (pf k))] [(.ref a), (.ref am), (.int (pf k)), (.ref am)]))
    obtain ⟨T7, X7, e7, st7⟩ := getF X6 hx hZ hown (host := "") (Or.inl (hw _ (List.mem_of_getElem? (i := 28) rfl))) Via.refl e6 F_a_size (g := (mkF m 35 #[.val (.ref a), .val (.int x1), .val (.int (pf k))] [(.ref a), (.ref am), (.int (pf k)), (.ref am)])) rfl rfl (hb hby d6_35)
    refine Go.of st7 ?_
    show Go _ _ _ _ _ _ _ (T7.setTop (mkF m 38 #[.val (.ref a), .val (.int x1), .val (.int (pf k))] [(.int (sz - (1 : Int32))), (.ref am), (.int (pf k)), (.ref am)]))
    refine Go.of (fun _ q => AF.iaload A_am X7 hx hZ e7 (own_ix (sz - (1 : Int32)) (by have := (own_last hinv hk (own_bt c5)); omega) (by have := (own_last hinv hk (own_bt c5)); have := hinv.1; omega)) (v := (.int (mf (sz - (1 : Int32)).toInt.toNat))) rfl (g := (mkF m 38 #[.val (.ref a), .val (.int x1), .val (.int (pf k))] [(.int (sz - (1 : Int32))), (.ref am), (.int (pf k)), (.ref am)])) rfl rfl (hb hby d6_38) q) ?_
    show Go _ _ _ _ _ _ _ (T7.setTop (mkF m 39 #[.val (.ref a), .val (.int x1), .val (.int (pf k))] [(.int (mf (sz - (1 : Int32)).toInt.toNat)), (.int (pf k)), (.ref am)]))
    obtain ⟨T8, h8, X8, e8, W8, A8', st8⟩ := AF.iastore A_am X7 hx hZ e7 (i := (pf k).toInt.toNat) (own_ix (pf k) (hinv.2.1 k hk).1 (hinv.2.1 k hk).2) (g := (mkF m 39 #[.val (.ref a), .val (.int x1), .val (.int (pf k))] [(.int (mf (sz - (1 : Int32)).toInt.toNat)), (.int (pf k)), (.ref am)])) rfl rfl (hb hby d6_39)
    refine Go.of st8 ?_
    have Zs := Nat.le_trans Zs (Nat.le_of_eq W8.size.symm)
    have Kp := Kp.wr W8 (Or.inl (List.mem_of_getElem? (i := 1) rfl))
    have E_a := E_a.wr W8
    have F_a_members := F_a_members.other W8 (Or.inl ne_a_am)
    have F_a_places := F_a_places.other W8 (Or.inl ne_a_am)
    have F_a_size := F_a_size.other W8 (Or.inl ne_a_am)
    have A_ap := A_ap.other W8 (Ne.symm ne_am_ap)
    have A_am : AF Z h8 am km .int 4 (fun i => .int ((upI mf (pf k).toInt.toNat (mf (sz - (1 : Int32)).toInt.toNat)) i)) := A8'.toI
    have N8 := Fr.snoc X8 N4 g_am
    show Go _ _ _ _ _ _ _ (T8.setTop (mkF m 40 #[.val (.ref a), .val (.int x1), .val (.int (pf k))] []))
    refine Go.of (fun _ q => XS.aloadN X8.here hx rfl (hb hby d6_40) rfl rfl q) ?_
    show Go _ _ _ _ _ _ _ (T8.setTop (mkF m 41 #[.val (.ref a), .val (.int x1), .val (.int (pf k))] [(.ref a)]))
    obtain ⟨T9, X9, e9, st9⟩ := getF X8 hx hZ hown (host := "") (Or.inl (hw _ (List.mem_of_getElem? (i := 12) rfl))) Via.refl e8 F_a_places (g := (mkF m 41 #[.val (.ref a), .val (.int x1), .val (.int (pf k))] [(.ref a)])) rfl rfl (hb hby d6_41)
    refine Go.of st9 ?_
    show Go _ _ _ _ _ _ _ (T9.setTop (mkF m 44 #[.val (.ref a), .val (.int x1), .val (.int (pf k))] [(.ref ap)]))
    refine Go.of (fun _ q => XS.aloadN X9.here hx rfl (hb hby d6_44) rfl rfl q) ?_
    show Go _ _ _ _ _ _ _ (T9.setTop (mkF m 45 #[.val (.ref a), .val (.int x1), .val (.int (pf k))] [(.ref a), (.ref ap)]))
    obtain ⟨T10, X10, e10, st10⟩ := getF X9 hx hZ hown (host := "") (Or.inl (hw _ (List.mem_of_getElem? (i := 10) rfl))) Via.refl e9 F_a_members (g := (mkF m 45 #[.val (.ref a), .val (.int x1), .val (.int (pf k))] [(.ref a), (.ref ap)])) rfl rfl (hb hby d6_45)
    refine Go.of st10 ?_
    show Go _ _ _ _ _ _ _ (T10.setTop (mkF m 48 #[.val (.ref a), .val (.int x1), .val (.int (pf k))] [(.ref am), (.ref ap)]))
    refine Go.of (fun _ q => XS.iloadN X10.here hx rfl (hb hby d6_48) rfl q) ?_
    show Go _ _ _ _ _ _ _ (T10.setTop (mkF m 49 #[.val (.ref a), .val (.int x1), .val (.int (pf k))] [(.int (pf k)), (.ref am), (.ref ap)]))
    refine Go.of (fun _ q => AF.iaload A_am X10 hx hZ e10 (own_ix (pf k) (hinv.2.1 k hk).1 (hinv.2.1 k hk).2) (v := (.int (mf (sz - (1 : Int32)).toInt.toNat))) (by simp [upI]) (g := (mkF m 49 #[.val (.ref a), .val (.int x1), .val (.int (pf k))] [(.int (pf k)), (.ref am), (.ref ap)])) rfl rfl (hb hby d6_49) q) ?_
    show Go _ _ _ _ _ _ _ (T10.setTop (mkF m 50 #[.val (.ref a), .val (.int x1), .val (.int (pf k))] [(.int (mf (sz - (1 : Int32)).toInt.toNat)), (.ref ap)]))
    refine Go.of (fun _ q => XS.iloadN X10.here hx rfl (hb hby d6_50) rfl q) ?_
    show Go _ _ _ _ _ _ _ (T10.setTop (mkF m 51 #[.val (.ref a), .val (.int x1), .val (.int (pf k))] [(.int (pf k)), (.int (mf (sz - (1 : Int32)).toInt.toNat)), (.ref ap)]))
    obtain ⟨T11, h11, X11, e11, W11, A11', st11⟩ := AF.iastore A_ap X10 hx hZ e10 (i := (mf (sz - (1 : Int32)).toInt.toNat).toInt.toNat) (own_ix (mf (sz - (1 : Int32)).toInt.toNat) (own_last hinv hk (own_bt c5)).2.2.1 (own_last hinv hk (own_bt c5)).2.2.2) (g := (mkF m 51 #[.val (.ref a), .val (.int x1), .val (.int (pf k))] [(.int (pf k)), (.int (mf (sz - (1 : Int32)).toInt.toNat)), (.ref ap)])) rfl rfl (hb hby d6_51)
    refine Go.of st11 ?_
    have Zs := Nat.le_trans Zs (Nat.le_of_eq W11.size.symm)
    have Kp := Kp.wr W11 (Or.inl (List.mem_of_getElem? (i := 2) rfl))
    have E_a := E_a.wr W11
    have F_a_members := F_a_members.other W11 (Or.inl ne_a_ap)
    have F_a_places := F_a_places.other W11 (Or.inl ne_a_ap)
    have F_a_size := F_a_size.other W11 (Or.inl ne_a_ap)
    have A_am := A_am.other W11 ne_am_ap
    have A_ap : AF Z h11 ap kp .int 4 (fun i => .int ((upI pf (mf (sz - (1 : Int32)).toInt.toNat).toInt.toNat (pf k)) i)) := A11'.toI
    have N11 := Fr.snoc X11 N8 g_ap
    show Go _ _ _ _ _ _ _ (T11.setTop (mkF m 52 #[.val (.ref a), .val (.int x1), .val (.int (pf k))] []))
    refine Go.retV X11 hx hlk hret (hb hby d6_52) (by decide) (by decide) ?_
    rw [e11]
    exact ⟨(upI mf (pf k).toInt.toNat (mf (sz - (1 : Int32)).toInt.toNat)), (upI pf (mf (sz - (1 : Int32)).toInt.toNat).toInt.toNat (pf k)), (sz - (1 : Int32)), rfl, N11, Kp, E_a, F_a_members, F_a_places, F_a_size, A_am, A_ap, (own_rem hinv hk (own_bt c5))⟩
theorem d7_0 : decode prog_59_method_7_code 0 = .ok (.aload_n 0, 1) := by decide +kernel
theorem d7_1 : decode prog_59_method_7_code 1 = .ok (.iconst 0, 1) := by decide +kernel
theorem d7_2 : decode prog_59_method_7_code 2 = .ok (.putfield 16, 3) := by decide +kernel
theorem d7_5 : decode prog_59_method_7_code 5 = .ok (.return_, 1) := by decide +kernel
theorem ef_7 (m : MethodId) (a : Addr) : entryFrame m #[(.ref a)] 1 = mkF m 0 #[.val (.ref a)] [] := by first | (simp [entryFrame, mkF, argsToLocals, Value.category]; done) | rfl
def Q7 (Z : State) (a : Addr) (am : Addr) (ap : Addr) (sz : Int32) (h0 : Heap) (n0 : Nat) (v : Option Value) (h : Heap) (L : List Loc) : Prop := v = none ∧ Fr n0 L ∧ Keep h0 h [a] ∧ Exa Z h a "com/example/quillon/quillon/ir/TemporarySet" ∧ Fld Z h a "com/example/quillon/quillon/ir/TemporarySet" "members" "[I" (.ref am) ∧ Fld Z h a "com/example/quillon/quillon/ir/TemporarySet" "places" "[I" (.ref ap) ∧ Fld Z h a "com/example/quillon/quillon/ir/TemporarySet" "size" "I" (.int (0 : Int32))
set_option maxRecDepth 65536 in
set_option maxHeartbeats 40000000 in
theorem rm7 (l : Launch) (Z : State) (a0 : Array Value) (hw : ∀ d ∈ tables_1, d.before a0 Z = true) (a : Addr) (am : Addr) (ap : Addr) (sz : Int32) (h0 : Heap) (n0 : Nat) (Zs : n0 ≤ h0.size) (E_a : Exa Z h0 a "com/example/quillon/quillon/ir/TemporarySet") (F_a_members : Fld Z h0 a "com/example/quillon/quillon/ir/TemporarySet" "members" "[I" (.ref am)) (F_a_places : Fld Z h0 a "com/example/quillon/quillon/ir/TemporarySet" "places" "[I" (.ref ap)) (F_a_size : Fld Z h0 a "com/example/quillon/quillon/ir/TemporarySet" "size" "I" (.int sz)) (g_a : n0 ≤ a) :
    Con l Z (⟨"com/example/quillon/quillon/ir/TemporarySet", "clear", "()V"⟩ : MethodName) prog_59_method_7_code 1 none ({ frames := 0, cells := 0, slots := 0, locals := 0 } : Room) #[(.ref a)] h0 (Q7 Z a am ap sz h0 n0) := by
  refine Con.intro (plainFor_of_name pn0) (fun m => ef_7 m a) ?_
  intro p e s m below meth c s₁ hx hby hml0 hZ hown hnm hret hlk X0 e0
  have hml : c.maxLocals = 1 := hml0
  have N0 := Fr.nil n0
  have Kp : Keep h0 h0 [a] := Keep.refl h0 _
  show Go _ _ _ _ _ _ _ (s₁.setTop (mkF m 0 #[.val (.ref a)] []))
  refine Go.of (fun _ q => XS.aloadN X0.here hx rfl (hb hby d7_0) rfl rfl q) ?_
  show Go _ _ _ _ _ _ _ (s₁.setTop (mkF m 1 #[.val (.ref a)] [(.ref a)]))
  refine Go.of (fun _ q => XS.iconst X0.here hx rfl (hb hby d7_1) q) ?_
  show Go _ _ _ _ _ _ _ (s₁.setTop (mkF m 2 #[.val (.ref a)] [(.int (0 : Int32)), (.ref a)]))
  obtain ⟨T1, h1, X1, e1, W1, st1⟩ := putF X0 hx hZ hown (host := "") (Or.inl (hw _ (List.mem_of_getElem? (i := 28) rfl))) Via.refl e0 F_a_size E_a (Or.inl (hw _ (List.mem_of_getElem? (i := 29) rfl))) (hw _ (List.mem_of_getElem? (i := 1) rfl)) (ty := .int) (by decide) rfl rfl (g := (mkF m 2 #[.val (.ref a)] [(.int (0 : Int32)), (.ref a)])) rfl rfl (hb hby d7_2)
  refine Go.of st1 ?_
  have Zs := Nat.le_trans Zs (Nat.le_of_eq W1.size.symm)
  have Kp := Kp.wr W1 (Or.inl (List.mem_of_getElem? (i := 0) rfl))
  have E_a := E_a.wr W1
  have F_a_members := F_a_members.other W1 (Or.inr (slot_ne (Or.inr (hw _ (List.mem_of_getElem? (i := 11) rfl))) (Or.inl (hw _ (List.mem_of_getElem? (i := 29) rfl))) (by decide) (t := (.array .int)) (t' := .int) (by decide) (by decide)))
  have F_a_places := F_a_places.other W1 (Or.inr (slot_ne (Or.inr (hw _ (List.mem_of_getElem? (i := 13) rfl))) (Or.inl (hw _ (List.mem_of_getElem? (i := 29) rfl))) (by decide) (t := (.array .int)) (t' := .int) (by decide) (by decide)))
  have F_a_size := F_a_size.same W1
  have N1 := Fr.snoc X1 N0 g_a
  show Go _ _ _ _ _ _ _ (T1.setTop (mkF m 5 #[.val (.ref a)] []))
  refine Go.retV X1 hx hlk hret (hb hby d7_5) (by decide) (by decide) ?_
  rw [e1]
  exact ⟨rfl, N1, Kp, E_a, F_a_members, F_a_places, F_a_size⟩
theorem pd1 : parseMethodDescriptor "()V" = some ⟨[], none⟩ := by decide +kernel
theorem pd2 : parseMethodDescriptor "(I)V" = some ⟨[.int], none⟩ := by decide +kernel
theorem d3_0 : decode method_2_code 0 = .ok (.iload_n 2, 1) := by decide +kernel
theorem d3_1 : decode method_2_code 1 = .ok (.iconst 3, 1) := by decide +kernel
theorem d3_2 : decode method_2_code 2 = .ok (.iand, 1) := by decide +kernel
theorem d3_3 : decode method_2_code 3 = .ok (.istore_n 3, 1) := by decide +kernel
theorem d3_4 : decode method_2_code 4 = .ok (.iload_n 2, 1) := by decide +kernel
theorem d3_5 : decode method_2_code 5 = .ok (.iconst 2, 1) := by decide +kernel
theorem d3_6 : decode method_2_code 6 = .ok (.iushr, 1) := by decide +kernel
theorem d3_7 : decode method_2_code 7 = .ok (.iconst 3, 1) := by decide +kernel
theorem d3_8 : decode method_2_code 8 = .ok (.iand, 1) := by decide +kernel
theorem d3_9 : decode method_2_code 9 = .ok (.istore 4, 2) := by decide +kernel
theorem d3_11 : decode method_2_code 11 = .ok (.iload 4, 2) := by decide +kernel
theorem d3_13 : decode method_2_code 13 = .ok (.iconst 3, 1) := by decide +kernel
theorem d3_14 : decode method_2_code 14 = .ok (.if_icmp .ne 9, 3) := by decide +kernel
theorem d3_17 : decode method_2_code 17 = .ok (.aload_n 0, 1) := by decide +kernel
theorem d3_18 : decode method_2_code 18 = .ok (.invokevirtual 7, 3) := by decide +kernel
theorem d3_21 : decode method_2_code 21 = .ok (.iconst 0, 1) := by decide +kernel
theorem d3_22 : decode method_2_code 22 = .ok (.ireturn, 1) := by decide +kernel
theorem d3_23 : decode method_2_code 23 = .ok (.iload 4, 2) := by decide +kernel
theorem d3_25 : decode method_2_code 25 = .ok (.iconst 2, 1) := by decide +kernel
theorem d3_26 : decode method_2_code 26 = .ok (.if_icmp .ne 16, 3) := by decide +kernel
theorem d3_29 : decode method_2_code 29 = .ok (.aload_n 0, 1) := by decide +kernel
theorem d3_30 : decode method_2_code 30 = .ok (.iload_n 3, 1) := by decide +kernel
theorem d3_31 : decode method_2_code 31 = .ok (.invokevirtual 12, 3) := by decide +kernel
theorem d3_34 : decode method_2_code 34 = .ok (.iload_n 1, 1) := by decide +kernel
theorem d3_35 : decode method_2_code 35 = .ok (.iconst 1, 1) := by decide +kernel
theorem d3_36 : decode method_2_code 36 = .ok (.iload_n 3, 1) := by decide +kernel
theorem d3_37 : decode method_2_code 37 = .ok (.ishl, 1) := by decide +kernel
theorem d3_38 : decode method_2_code 38 = .ok (.iconst (-1), 1) := by decide +kernel
theorem d3_39 : decode method_2_code 39 = .ok (.ixor, 1) := by decide +kernel
theorem d3_40 : decode method_2_code 40 = .ok (.iand, 1) := by decide +kernel
theorem d3_41 : decode method_2_code 41 = .ok (.ireturn, 1) := by decide +kernel
theorem d3_42 : decode method_2_code 42 = .ok (.aload_n 0, 1) := by decide +kernel
theorem d3_43 : decode method_2_code 43 = .ok (.iload_n 3, 1) := by decide +kernel
theorem d3_44 : decode method_2_code 44 = .ok (.invokevirtual 16, 3) := by decide +kernel
theorem d3_47 : decode method_2_code 47 = .ok (.iload_n 1, 1) := by decide +kernel
theorem d3_48 : decode method_2_code 48 = .ok (.iconst 1, 1) := by decide +kernel
theorem d3_49 : decode method_2_code 49 = .ok (.iload_n 3, 1) := by decide +kernel
theorem d3_50 : decode method_2_code 50 = .ok (.ishl, 1) := by decide +kernel
theorem d3_51 : decode method_2_code 51 = .ok (.ior, 1) := by decide +kernel
theorem d3_52 : decode method_2_code 52 = .ok (.ireturn, 1) := by decide +kernel
theorem pn1 : plainName "com/example/quillon/quillon/ir/TemporarySetContainsPinLaw" = true := by first | (simp [plainName, overriddenIn]; done) | decide +kernel
theorem ef_3 (m : MethodId) (a : Addr) (x1 : Int32) (x2 : Int32) : entryFrame m #[(.ref a), (.int x1), (.int x2)] 5 = mkF m 0 #[.val (.ref a), .val (.int x1), .val (.int x2), .unset, .unset] [] := by first | (simp [entryFrame, mkF, argsToLocals, Value.category]; done) | rfl
def Q3 (Z : State) (a : Addr) (x1 : Int32) (x2 : Int32) (am : Addr) (ap : Addr) (km : ClassId) (kp : ClassId) (mf : Nat → Int32) (pf : Nat → Int32) (sz : Int32) (h0 : Heap) (n0 : Nat) (v : Option Value) (h : Heap) (L : List Loc) : Prop := ∃ mq : Nat → Int32, ∃ pq : Nat → Int32, ∃ sq : Int32, v = some (.int (own_step x1 x2)) ∧ Fr n0 L ∧ Keep h0 h [a, am, ap] ∧ Exa Z h a "com/example/quillon/quillon/ir/TemporarySet" ∧ Fld Z h a "com/example/quillon/quillon/ir/TemporarySet" "members" "[I" (.ref am) ∧ Fld Z h a "com/example/quillon/quillon/ir/TemporarySet" "places" "[I" (.ref ap) ∧ Fld Z h a "com/example/quillon/quillon/ir/TemporarySet" "size" "I" (.int sq) ∧ AF Z h am km .int 4 (fun i => .int (mq i)) ∧ AF Z h ap kp .int 4 (fun i => .int (pq i)) ∧ own_inv mq pq sq (own_bits (own_step x1 x2))
set_option maxRecDepth 65536 in
set_option maxHeartbeats 40000000 in
theorem rm3 (l : Launch) (Z : State) (a0 : Array Value) (hw : ∀ d ∈ tables_1, d.before a0 Z = true) (a : Addr) (x1 : Int32) (x2 : Int32) (am : Addr) (ap : Addr) (km : ClassId) (kp : ClassId) (mf : Nat → Int32) (pf : Nat → Int32) (sz : Int32) (h0 : Heap) (n0 : Nat) (Zs : n0 ≤ h0.size) (E_a : Exa Z h0 a "com/example/quillon/quillon/ir/TemporarySet") (F_a_members : Fld Z h0 a "com/example/quillon/quillon/ir/TemporarySet" "members" "[I" (.ref am)) (F_a_places : Fld Z h0 a "com/example/quillon/quillon/ir/TemporarySet" "places" "[I" (.ref ap)) (F_a_size : Fld Z h0 a "com/example/quillon/quillon/ir/TemporarySet" "size" "I" (.int sz)) (A_am : AF Z h0 am km .int 4 (fun i => .int (mf i))) (A_ap : AF Z h0 ap kp .int 4 (fun i => .int (pf i))) (g_a : n0 ≤ a) (g_am : n0 ≤ am) (g_ap : n0 ≤ ap) (ne_a_am : a ≠ am) (ne_a_ap : a ≠ ap) (ne_am_ap : am ≠ ap) (hinv : own_inv mf pf sz (own_bits x1)) :
    Con l Z (⟨"com/example/quillon/quillon/ir/TemporarySetContainsPinLaw", "step", "(Lcom/example/quillon/quillon/ir/TemporarySet;II)I"⟩ : MethodName) method_2_code 5 (some .int) ({ frames := 2, cells := 0, slots := 0, locals := 28 } : Room) #[(.ref a), (.int x1), (.int x2)] h0 (Q3 Z a x1 x2 am ap km kp mf pf sz h0 n0) := by
  refine Con.intro (plainFor_of_name pn1) (fun m => ef_3 m a x1 x2) ?_
  intro p e s m below meth c s₁ hx hby hml0 hZ hown hnm hret hlk X0 e0
  have hml : c.maxLocals = 5 := hml0
  have N0 := Fr.nil n0
  have Kp : Keep h0 h0 [a, am, ap] := Keep.refl h0 _
  obtain ⟨k, hk, hxk⟩ := own_four x2
  show Go _ _ _ _ _ _ _ (s₁.setTop (mkF m 0 #[.val (.ref a), .val (.int x1), .val (.int x2), .unset, .unset] []))
  refine Go.of (fun _ q => XS.iloadN X0.here hx rfl (hb hby d3_0) rfl q) ?_
  show Go _ _ _ _ _ _ _ (s₁.setTop (mkF m 1 #[.val (.ref a), .val (.int x1), .val (.int x2), .unset, .unset] [(.int x2)]))
  refine Go.of (fun _ q => XS.iconst X0.here hx rfl (hb hby d3_1) q) ?_
  show Go _ _ _ _ _ _ _ (s₁.setTop (mkF m 2 #[.val (.ref a), .val (.int x1), .val (.int x2), .unset, .unset] [(.int (3 : Int32)), (.int x2)]))
  refine Go.of (fun _ q => XS.iand X0.here hx rfl (hb hby d3_2) rfl q) ?_
  show Go _ _ _ _ _ _ _ (s₁.setTop (mkF m 3 #[.val (.ref a), .val (.int x1), .val (.int x2), .unset, .unset] [(.int (x2 &&& (3 : Int32)))]))
  refine Go.of (fun _ q => XS.istoreN X0.here hx rfl (hb hby d3_3) rfl (l' := #[.val (.ref a), .val (.int x1), .val (.int x2), .val (.int (x2 &&& (3 : Int32))), .unset]) rfl q) ?_
  show Go _ _ _ _ _ _ _ (s₁.setTop (mkF m 4 #[.val (.ref a), .val (.int x1), .val (.int x2), .val (.int (x2 &&& (3 : Int32))), .unset] []))
  refine Go.of (fun _ q => XS.iloadN X0.here hx rfl (hb hby d3_4) rfl q) ?_
  show Go _ _ _ _ _ _ _ (s₁.setTop (mkF m 5 #[.val (.ref a), .val (.int x1), .val (.int x2), .val (.int (x2 &&& (3 : Int32))), .unset] [(.int x2)]))
  refine Go.of (fun _ q => XS.iconst X0.here hx rfl (hb hby d3_5) q) ?_
  show Go _ _ _ _ _ _ _ (s₁.setTop (mkF m 6 #[.val (.ref a), .val (.int x1), .val (.int x2), .val (.int (x2 &&& (3 : Int32))), .unset] [(.int (2 : Int32)), (.int x2)]))
  refine Go.of (fun _ q => XS.iushr X0.here hx rfl (hb hby d3_6) rfl q) ?_
  show Go _ _ _ _ _ _ _ (s₁.setTop (mkF m 7 #[.val (.ref a), .val (.int x1), .val (.int x2), .val (.int (x2 &&& (3 : Int32))), .unset] [(.int ((x2.toUInt32 >>> ((2 : Int32) &&& 31).toUInt32).toInt32))]))
  refine Go.of (fun _ q => XS.iconst X0.here hx rfl (hb hby d3_7) q) ?_
  show Go _ _ _ _ _ _ _ (s₁.setTop (mkF m 8 #[.val (.ref a), .val (.int x1), .val (.int x2), .val (.int (x2 &&& (3 : Int32))), .unset] [(.int (3 : Int32)), (.int ((x2.toUInt32 >>> ((2 : Int32) &&& 31).toUInt32).toInt32))]))
  refine Go.of (fun _ q => XS.iand X0.here hx rfl (hb hby d3_8) rfl q) ?_
  show Go _ _ _ _ _ _ _ (s₁.setTop (mkF m 9 #[.val (.ref a), .val (.int x1), .val (.int x2), .val (.int (x2 &&& (3 : Int32))), .unset] [(.int (((x2.toUInt32 >>> ((2 : Int32) &&& 31).toUInt32).toInt32) &&& (3 : Int32)))]))
  refine Go.of (fun _ q => XS.istore X0.here hx rfl (hb hby d3_9) rfl (l' := #[.val (.ref a), .val (.int x1), .val (.int x2), .val (.int (x2 &&& (3 : Int32))), .val (.int (((x2.toUInt32 >>> ((2 : Int32) &&& 31).toUInt32).toInt32) &&& (3 : Int32)))]) rfl q) ?_
  show Go _ _ _ _ _ _ _ (s₁.setTop (mkF m 11 #[.val (.ref a), .val (.int x1), .val (.int x2), .val (.int (x2 &&& (3 : Int32))), .val (.int (((x2.toUInt32 >>> ((2 : Int32) &&& 31).toUInt32).toInt32) &&& (3 : Int32)))] []))
  refine Go.of (fun _ q => XS.iload X0.here hx rfl (hb hby d3_11) rfl q) ?_
  show Go _ _ _ _ _ _ _ (s₁.setTop (mkF m 13 #[.val (.ref a), .val (.int x1), .val (.int x2), .val (.int (x2 &&& (3 : Int32))), .val (.int (((x2.toUInt32 >>> ((2 : Int32) &&& 31).toUInt32).toInt32) &&& (3 : Int32)))] [(.int (((x2.toUInt32 >>> ((2 : Int32) &&& 31).toUInt32).toInt32) &&& (3 : Int32)))]))
  refine Go.of (fun _ q => XS.iconst X0.here hx rfl (hb hby d3_13) q) ?_
  show Go _ _ _ _ _ _ _ (s₁.setTop (mkF m 14 #[.val (.ref a), .val (.int x1), .val (.int x2), .val (.int (x2 &&& (3 : Int32))), .val (.int (((x2.toUInt32 >>> ((2 : Int32) &&& 31).toUInt32).toInt32) &&& (3 : Int32)))] [(.int (3 : Int32)), (.int (((x2.toUInt32 >>> ((2 : Int32) &&& 31).toUInt32).toInt32) &&& (3 : Int32)))]))
  by_cases c14 : (((x2.toUInt32 >>> ((2 : Int32) &&& 31).toUInt32).toInt32) &&& (3 : Int32)) = (3 : Int32)
  · refine Go.of (fun _ q => XS.icmpNo X0.here hx rfl (hb hby d3_14) rfl (teq c14).2 q) ?_
    show Go _ _ _ _ _ _ _ (s₁.setTop (mkF m 17 #[.val (.ref a), .val (.int x1), .val (.int x2), .val (.int (x2 &&& (3 : Int32))), .val (.int (((x2.toUInt32 >>> ((2 : Int32) &&& 31).toUInt32).toInt32) &&& (3 : Int32)))] []))
    refine Go.of (fun _ q => XS.aloadN X0.here hx rfl (hb hby d3_17) rfl rfl q) ?_
    show Go _ _ _ _ _ _ _ (s₁.setTop (mkF m 18 #[.val (.ref a), .val (.int x1), .val (.int x2), .val (.int (x2 &&& (3 : Int32))), .val (.int (((x2.toUInt32 >>> ((2 : Int32) &&& 31).toUInt32).toInt32) &&& (3 : Int32)))] [(.ref a)]))
    refine Go.virtual X0 hx hZ (y := (⟨"com/example/quillon/quillon/ir/TemporarySet", "clear", "()V"⟩ : MethodName)) (z := (⟨"com/example/quillon/quillon/ir/TemporarySet", "clear", "()V"⟩ : MethodName)) (a := a) (argsL := []) hown (hw _ (List.mem_of_getElem? (i := 36) rfl)) (hw _ (List.mem_of_getElem? (i := 37) rfl)) (notFace_of_selects (args := #[]) (mvT hZ (hw _ (List.mem_of_getElem? (i := 39) rfl)))) (hw _ (List.mem_of_getElem? (i := 39) rfl)) (hw _ (List.mem_of_getElem? (i := 38) rfl)) (hw _ (List.mem_of_getElem? (i := 2) rfl)) (hw _ (List.mem_of_getElem? (i := 40) rfl)) (by decide) 0 e0 E_a (rm7 l Z a0 hw a am ap sz h0 n0 Zs E_a F_a_members F_a_places F_a_size g_a) (by decide) (by decide) (by decide) (by decide) (g := (mkF m 18 #[.val (.ref a), .val (.int x1), .val (.int x2), .val (.int (x2 &&& (3 : Int32))), .val (.int (((x2.toUInt32 >>> ((2 : Int32) &&& 31).toUInt32).toInt32) &&& (3 : Int32)))] [(.ref a)])) rfl (by rw [hml]; rfl) (rest := []) (lenOf pd1 rfl) rfl (by show 2 * 0 + _ ≤ _; exact Nat.le_of_eq rfl) (hb hby d3_18) ?_
    intro T1 v1 L1 X1 q1
    obtain ⟨rfl, Nq1, K1, f1_0, f1_1, f1_2, f1_3⟩ := q1
    have N1 := Fr.app N0 Nq1
    have Zs := Nat.le_trans Zs K1.1
    have Kp := Kp.trans K1 (allS (P := fun x => x ∈ [a, am, ap] ∨ h0.size ≤ x) (Or.inl (List.mem_of_getElem? (i := 0) rfl)) all0)
    have E_a := E_a.keep K1
    have A_am := A_am.keep K1 (ninS (Ne.symm ne_a_am) nin0)
    have A_ap := A_ap.keep K1 (ninS (Ne.symm ne_a_ap) nin0)
    have F_a_members := f1_1
    have F_a_places := f1_2
    have F_a_size := f1_3
    show Go _ _ _ _ _ _ _ (T1.setTop (mkF m 21 #[.val (.ref a), .val (.int x1), .val (.int x2), .val (.int (x2 &&& (3 : Int32))), .val (.int (((x2.toUInt32 >>> ((2 : Int32) &&& 31).toUInt32).toInt32) &&& (3 : Int32)))] []))
    refine Go.of (fun _ q => XS.iconst X1.here hx rfl (hb hby d3_21) q) ?_
    show Go _ _ _ _ _ _ _ (T1.setTop (mkF m 22 #[.val (.ref a), .val (.int x1), .val (.int x2), .val (.int (x2 &&& (3 : Int32))), .val (.int (((x2.toUInt32 >>> ((2 : Int32) &&& 31).toUInt32).toInt32) &&& (3 : Int32)))] [(.int (0 : Int32))]))
    refine Go.retI X1 hx hlk hret (hb hby d3_22) (by decide) (by decide) ?_
    exact ⟨mf, pf, (0 : Int32), (by unfold own_step; rw [if_pos c14]), N1, Kp, E_a, F_a_members, F_a_places, F_a_size, A_am, A_ap, (own_inv_cast (own_clear hinv) (fun n _ => by unfold own_step; rw [if_pos c14]; simp [own_bits]))⟩
  · refine Go.of (fun _ q => XS.icmpYes X0.here hx rfl (pc0 := 14) (pc' := 23) rfl (hb hby d3_14) rfl (feq c14).2 (by decide) (by decide) q) ?_
    show Go _ _ _ _ _ _ _ (s₁.setTop (mkF m 23 #[.val (.ref a), .val (.int x1), .val (.int x2), .val (.int (x2 &&& (3 : Int32))), .val (.int (((x2.toUInt32 >>> ((2 : Int32) &&& 31).toUInt32).toInt32) &&& (3 : Int32)))] []))
    refine Go.of (fun _ q => XS.iload X0.here hx rfl (hb hby d3_23) rfl q) ?_
    show Go _ _ _ _ _ _ _ (s₁.setTop (mkF m 25 #[.val (.ref a), .val (.int x1), .val (.int x2), .val (.int (x2 &&& (3 : Int32))), .val (.int (((x2.toUInt32 >>> ((2 : Int32) &&& 31).toUInt32).toInt32) &&& (3 : Int32)))] [(.int (((x2.toUInt32 >>> ((2 : Int32) &&& 31).toUInt32).toInt32) &&& (3 : Int32)))]))
    refine Go.of (fun _ q => XS.iconst X0.here hx rfl (hb hby d3_25) q) ?_
    show Go _ _ _ _ _ _ _ (s₁.setTop (mkF m 26 #[.val (.ref a), .val (.int x1), .val (.int x2), .val (.int (x2 &&& (3 : Int32))), .val (.int (((x2.toUInt32 >>> ((2 : Int32) &&& 31).toUInt32).toInt32) &&& (3 : Int32)))] [(.int (2 : Int32)), (.int (((x2.toUInt32 >>> ((2 : Int32) &&& 31).toUInt32).toInt32) &&& (3 : Int32)))]))
    by_cases c26 : (((x2.toUInt32 >>> ((2 : Int32) &&& 31).toUInt32).toInt32) &&& (3 : Int32)) = (2 : Int32)
    · refine Go.of (fun _ q => XS.icmpNo X0.here hx rfl (hb hby d3_26) rfl (teq c26).2 q) ?_
      show Go _ _ _ _ _ _ _ (s₁.setTop (mkF m 29 #[.val (.ref a), .val (.int x1), .val (.int x2), .val (.int (x2 &&& (3 : Int32))), .val (.int (((x2.toUInt32 >>> ((2 : Int32) &&& 31).toUInt32).toInt32) &&& (3 : Int32)))] []))
      refine Go.of (fun _ q => XS.aloadN X0.here hx rfl (hb hby d3_29) rfl rfl q) ?_
      show Go _ _ _ _ _ _ _ (s₁.setTop (mkF m 30 #[.val (.ref a), .val (.int x1), .val (.int x2), .val (.int (x2 &&& (3 : Int32))), .val (.int (((x2.toUInt32 >>> ((2 : Int32) &&& 31).toUInt32).toInt32) &&& (3 : Int32)))] [(.ref a)]))
      refine Go.of (fun _ q => XS.iloadN X0.here hx rfl (hb hby d3_30) rfl q) ?_
      show Go _ _ _ _ _ _ _ (s₁.setTop (mkF m 31 #[.val (.ref a), .val (.int x1), .val (.int x2), .val (.int (x2 &&& (3 : Int32))), .val (.int (((x2.toUInt32 >>> ((2 : Int32) &&& 31).toUInt32).toInt32) &&& (3 : Int32)))] [(.int (x2 &&& (3 : Int32))), (.ref a)]))
      refine Go.virtual X0 hx hZ (y := (⟨"com/example/quillon/quillon/ir/TemporarySet", "remove", "(I)V"⟩ : MethodName)) (z := (⟨"com/example/quillon/quillon/ir/TemporarySet", "remove", "(I)V"⟩ : MethodName)) (a := a) (argsL := [(.int (x2 &&& (3 : Int32)))]) hown (hw _ (List.mem_of_getElem? (i := 31) rfl)) (hw _ (List.mem_of_getElem? (i := 32) rfl)) (notFace_of_selects (args := #[]) (mvT hZ (hw _ (List.mem_of_getElem? (i := 34) rfl)))) (hw _ (List.mem_of_getElem? (i := 34) rfl)) (hw _ (List.mem_of_getElem? (i := 33) rfl)) (hw _ (List.mem_of_getElem? (i := 2) rfl)) (hw _ (List.mem_of_getElem? (i := 35) rfl)) (by decide) 0 e0 E_a (rm6 l Z a0 hw a (x2 &&& (3 : Int32)) am ap km kp mf pf sz (own_bits x1) k h0 n0 Zs E_a F_a_members F_a_places F_a_size A_am A_ap g_a g_am g_ap ne_a_am ne_a_ap ne_am_ap hinv hk hxk) (by decide) (by decide) (by decide) (by decide) (g := (mkF m 31 #[.val (.ref a), .val (.int x1), .val (.int x2), .val (.int (x2 &&& (3 : Int32))), .val (.int (((x2.toUInt32 >>> ((2 : Int32) &&& 31).toUInt32).toInt32) &&& (3 : Int32)))] [(.int (x2 &&& (3 : Int32))), (.ref a)])) rfl (by rw [hml]; rfl) (rest := []) (lenOf pd2 rfl) rfl (by show 2 * 0 + _ ≤ _; exact Nat.le_of_eq rfl) (hb hby d3_31) ?_
      intro T2 v2 L2 X2 q2
      obtain ⟨mq1, pq1, sq1, rfl, Nq2, K2, f2_0, f2_1, f2_2, f2_3, f2_4, f2_5, f2_6⟩ := q2
      have N2 := Fr.app N0 Nq2
      have Zs := Nat.le_trans Zs K2.1
      have Kp := Kp.trans K2 (allS (P := fun x => x ∈ [a, am, ap] ∨ h0.size ≤ x) (Or.inl (List.mem_of_getElem? (i := 0) rfl)) (allS (P := fun x => x ∈ [a, am, ap] ∨ h0.size ≤ x) (Or.inl (List.mem_of_getElem? (i := 1) rfl)) (allS (P := fun x => x ∈ [a, am, ap] ∨ h0.size ≤ x) (Or.inl (List.mem_of_getElem? (i := 2) rfl)) all0)))
      have E_a := E_a.keep K2
      have F_a_members := f2_1
      have F_a_places := f2_2
      have F_a_size := f2_3
      have A_am := f2_4
      have A_ap := f2_5
      have hq_2 := f2_6
      show Go _ _ _ _ _ _ _ (T2.setTop (mkF m 34 #[.val (.ref a), .val (.int x1), .val (.int x2), .val (.int (x2 &&& (3 : Int32))), .val (.int (((x2.toUInt32 >>> ((2 : Int32) &&& 31).toUInt32).toInt32) &&& (3 : Int32)))] []))
      refine Go.of (fun _ q => XS.iloadN X2.here hx rfl (hb hby d3_34) rfl q) ?_
      show Go _ _ _ _ _ _ _ (T2.setTop (mkF m 35 #[.val (.ref a), .val (.int x1), .val (.int x2), .val (.int (x2 &&& (3 : Int32))), .val (.int (((x2.toUInt32 >>> ((2 : Int32) &&& 31).toUInt32).toInt32) &&& (3 : Int32)))] [(.int x1)]))
      refine Go.of (fun _ q => XS.iconst X2.here hx rfl (hb hby d3_35) q) ?_
      show Go _ _ _ _ _ _ _ (T2.setTop (mkF m 36 #[.val (.ref a), .val (.int x1), .val (.int x2), .val (.int (x2 &&& (3 : Int32))), .val (.int (((x2.toUInt32 >>> ((2 : Int32) &&& 31).toUInt32).toInt32) &&& (3 : Int32)))] [(.int (1 : Int32)), (.int x1)]))
      refine Go.of (fun _ q => XS.iloadN X2.here hx rfl (hb hby d3_36) rfl q) ?_
      show Go _ _ _ _ _ _ _ (T2.setTop (mkF m 37 #[.val (.ref a), .val (.int x1), .val (.int x2), .val (.int (x2 &&& (3 : Int32))), .val (.int (((x2.toUInt32 >>> ((2 : Int32) &&& 31).toUInt32).toInt32) &&& (3 : Int32)))] [(.int (x2 &&& (3 : Int32))), (.int (1 : Int32)), (.int x1)]))
      refine Go.of (fun _ q => XS.ishl X2.here hx rfl (hb hby d3_37) rfl q) ?_
      show Go _ _ _ _ _ _ _ (T2.setTop (mkF m 38 #[.val (.ref a), .val (.int x1), .val (.int x2), .val (.int (x2 &&& (3 : Int32))), .val (.int (((x2.toUInt32 >>> ((2 : Int32) &&& 31).toUInt32).toInt32) &&& (3 : Int32)))] [(.int ((1 : Int32) <<< ((x2 &&& (3 : Int32)) &&& 31))), (.int x1)]))
      refine Go.of (fun _ q => XS.iconst X2.here hx rfl (hb hby d3_38) q) ?_
      show Go _ _ _ _ _ _ _ (T2.setTop (mkF m 39 #[.val (.ref a), .val (.int x1), .val (.int x2), .val (.int (x2 &&& (3 : Int32))), .val (.int (((x2.toUInt32 >>> ((2 : Int32) &&& 31).toUInt32).toInt32) &&& (3 : Int32)))] [(.int (-1 : Int32)), (.int ((1 : Int32) <<< ((x2 &&& (3 : Int32)) &&& 31))), (.int x1)]))
      refine Go.of (fun _ q => XS.ixor X2.here hx rfl (hb hby d3_39) rfl q) ?_
      show Go _ _ _ _ _ _ _ (T2.setTop (mkF m 40 #[.val (.ref a), .val (.int x1), .val (.int x2), .val (.int (x2 &&& (3 : Int32))), .val (.int (((x2.toUInt32 >>> ((2 : Int32) &&& 31).toUInt32).toInt32) &&& (3 : Int32)))] [(.int (((1 : Int32) <<< ((x2 &&& (3 : Int32)) &&& 31)) ^^^ (-1 : Int32))), (.int x1)]))
      refine Go.of (fun _ q => XS.iand X2.here hx rfl (hb hby d3_40) rfl q) ?_
      show Go _ _ _ _ _ _ _ (T2.setTop (mkF m 41 #[.val (.ref a), .val (.int x1), .val (.int x2), .val (.int (x2 &&& (3 : Int32))), .val (.int (((x2.toUInt32 >>> ((2 : Int32) &&& 31).toUInt32).toInt32) &&& (3 : Int32)))] [(.int (x1 &&& (((1 : Int32) <<< ((x2 &&& (3 : Int32)) &&& 31)) ^^^ (-1 : Int32))))]))
      refine Go.retI X2 hx hlk hret (hb hby d3_41) (by decide) (by decide) ?_
      exact ⟨mq1, pq1, sq1, (by unfold own_step; rw [if_neg c14, if_pos c26]), N2, Kp, E_a, F_a_members, F_a_places, F_a_size, A_am, A_ap, (own_inv_cast hq_2 (fun n hn => by unfold own_step; rw [if_neg c14, if_pos c26, hxk]; exact own_and x1 hk n hn))⟩
    · refine Go.of (fun _ q => XS.icmpYes X0.here hx rfl (pc0 := 26) (pc' := 42) rfl (hb hby d3_26) rfl (feq c26).2 (by decide) (by decide) q) ?_
      show Go _ _ _ _ _ _ _ (s₁.setTop (mkF m 42 #[.val (.ref a), .val (.int x1), .val (.int x2), .val (.int (x2 &&& (3 : Int32))), .val (.int (((x2.toUInt32 >>> ((2 : Int32) &&& 31).toUInt32).toInt32) &&& (3 : Int32)))] []))
      refine Go.of (fun _ q => XS.aloadN X0.here hx rfl (hb hby d3_42) rfl rfl q) ?_
      show Go _ _ _ _ _ _ _ (s₁.setTop (mkF m 43 #[.val (.ref a), .val (.int x1), .val (.int x2), .val (.int (x2 &&& (3 : Int32))), .val (.int (((x2.toUInt32 >>> ((2 : Int32) &&& 31).toUInt32).toInt32) &&& (3 : Int32)))] [(.ref a)]))
      refine Go.of (fun _ q => XS.iloadN X0.here hx rfl (hb hby d3_43) rfl q) ?_
      show Go _ _ _ _ _ _ _ (s₁.setTop (mkF m 44 #[.val (.ref a), .val (.int x1), .val (.int x2), .val (.int (x2 &&& (3 : Int32))), .val (.int (((x2.toUInt32 >>> ((2 : Int32) &&& 31).toUInt32).toInt32) &&& (3 : Int32)))] [(.int (x2 &&& (3 : Int32))), (.ref a)]))
      refine Go.virtual X0 hx hZ (y := (⟨"com/example/quillon/quillon/ir/TemporarySet", "add", "(I)V"⟩ : MethodName)) (z := (⟨"com/example/quillon/quillon/ir/TemporarySet", "add", "(I)V"⟩ : MethodName)) (a := a) (argsL := [(.int (x2 &&& (3 : Int32)))]) hown (hw _ (List.mem_of_getElem? (i := 18) rfl)) (hw _ (List.mem_of_getElem? (i := 19) rfl)) (notFace_of_selects (args := #[]) (mvT hZ (hw _ (List.mem_of_getElem? (i := 21) rfl)))) (hw _ (List.mem_of_getElem? (i := 21) rfl)) (hw _ (List.mem_of_getElem? (i := 20) rfl)) (hw _ (List.mem_of_getElem? (i := 2) rfl)) (hw _ (List.mem_of_getElem? (i := 22) rfl)) (by decide) 0 e0 E_a (rm4 l Z a0 hw a (x2 &&& (3 : Int32)) am ap km kp mf pf sz (own_bits x1) k h0 n0 Zs E_a F_a_members F_a_places F_a_size A_am A_ap g_a g_am g_ap ne_a_am ne_a_ap ne_am_ap hinv hk hxk) (by decide) (by decide) (by decide) (by decide) (g := (mkF m 44 #[.val (.ref a), .val (.int x1), .val (.int x2), .val (.int (x2 &&& (3 : Int32))), .val (.int (((x2.toUInt32 >>> ((2 : Int32) &&& 31).toUInt32).toInt32) &&& (3 : Int32)))] [(.int (x2 &&& (3 : Int32))), (.ref a)])) rfl (by rw [hml]; rfl) (rest := []) (lenOf pd2 rfl) rfl (by show 2 * 0 + _ ≤ _; exact Nat.le_of_eq rfl) (hb hby d3_44) ?_
      intro T3 v3 L3 X3 q3
      obtain ⟨mq1, pq1, sq1, rfl, Nq3, K3, f3_0, f3_1, f3_2, f3_3, f3_4, f3_5, f3_6⟩ := q3
      have N3 := Fr.app N0 Nq3
      have Zs := Nat.le_trans Zs K3.1
      have Kp := Kp.trans K3 (allS (P := fun x => x ∈ [a, am, ap] ∨ h0.size ≤ x) (Or.inl (List.mem_of_getElem? (i := 0) rfl)) (allS (P := fun x => x ∈ [a, am, ap] ∨ h0.size ≤ x) (Or.inl (List.mem_of_getElem? (i := 1) rfl)) (allS (P := fun x => x ∈ [a, am, ap] ∨ h0.size ≤ x) (Or.inl (List.mem_of_getElem? (i := 2) rfl)) all0)))
      have E_a := E_a.keep K3
      have F_a_members := f3_1
      have F_a_places := f3_2
      have F_a_size := f3_3
      have A_am := f3_4
      have A_ap := f3_5
      have hq_3 := f3_6
      show Go _ _ _ _ _ _ _ (T3.setTop (mkF m 47 #[.val (.ref a), .val (.int x1), .val (.int x2), .val (.int (x2 &&& (3 : Int32))), .val (.int (((x2.toUInt32 >>> ((2 : Int32) &&& 31).toUInt32).toInt32) &&& (3 : Int32)))] []))
      refine Go.of (fun _ q => XS.iloadN X3.here hx rfl (hb hby d3_47) rfl q) ?_
      show Go _ _ _ _ _ _ _ (T3.setTop (mkF m 48 #[.val (.ref a), .val (.int x1), .val (.int x2), .val (.int (x2 &&& (3 : Int32))), .val (.int (((x2.toUInt32 >>> ((2 : Int32) &&& 31).toUInt32).toInt32) &&& (3 : Int32)))] [(.int x1)]))
      refine Go.of (fun _ q => XS.iconst X3.here hx rfl (hb hby d3_48) q) ?_
      show Go _ _ _ _ _ _ _ (T3.setTop (mkF m 49 #[.val (.ref a), .val (.int x1), .val (.int x2), .val (.int (x2 &&& (3 : Int32))), .val (.int (((x2.toUInt32 >>> ((2 : Int32) &&& 31).toUInt32).toInt32) &&& (3 : Int32)))] [(.int (1 : Int32)), (.int x1)]))
      refine Go.of (fun _ q => XS.iloadN X3.here hx rfl (hb hby d3_49) rfl q) ?_
      show Go _ _ _ _ _ _ _ (T3.setTop (mkF m 50 #[.val (.ref a), .val (.int x1), .val (.int x2), .val (.int (x2 &&& (3 : Int32))), .val (.int (((x2.toUInt32 >>> ((2 : Int32) &&& 31).toUInt32).toInt32) &&& (3 : Int32)))] [(.int (x2 &&& (3 : Int32))), (.int (1 : Int32)), (.int x1)]))
      refine Go.of (fun _ q => XS.ishl X3.here hx rfl (hb hby d3_50) rfl q) ?_
      show Go _ _ _ _ _ _ _ (T3.setTop (mkF m 51 #[.val (.ref a), .val (.int x1), .val (.int x2), .val (.int (x2 &&& (3 : Int32))), .val (.int (((x2.toUInt32 >>> ((2 : Int32) &&& 31).toUInt32).toInt32) &&& (3 : Int32)))] [(.int ((1 : Int32) <<< ((x2 &&& (3 : Int32)) &&& 31))), (.int x1)]))
      refine Go.of (fun _ q => XS.ior X3.here hx rfl (hb hby d3_51) rfl q) ?_
      show Go _ _ _ _ _ _ _ (T3.setTop (mkF m 52 #[.val (.ref a), .val (.int x1), .val (.int x2), .val (.int (x2 &&& (3 : Int32))), .val (.int (((x2.toUInt32 >>> ((2 : Int32) &&& 31).toUInt32).toInt32) &&& (3 : Int32)))] [(.int (x1 ||| ((1 : Int32) <<< ((x2 &&& (3 : Int32)) &&& 31))))]))
      refine Go.retI X3 hx hlk hret (hb hby d3_52) (by decide) (by decide) ?_
      exact ⟨mq1, pq1, sq1, (by unfold own_step; rw [if_neg c14, if_neg c26]), N3, Kp, E_a, F_a_members, F_a_places, F_a_size, A_am, A_ap, (own_inv_cast hq_3 (fun n hn => by unfold own_step; rw [if_neg c14, if_neg c26, hxk]; exact own_or x1 hk n hn))⟩
theorem pd3 : parseMethodDescriptor "(Lcom/example/quillon/quillon/ir/TemporarySet;II)I" = some ⟨[(.object "com/example/quillon/quillon/ir/TemporarySet"), .int, .int], some .int⟩ := by decide +kernel
theorem ef_0 (m : MethodId) (x1 : Int32) (x2 : Int32) (x3 : Int32) (x4 : Int32) (x5 : Int32) (x6 : Int32) : entryFrame m #[(.int x1), (.int x2), (.int x3), (.int x4), (.int x5), (.int x6)] maxLocals = mkF m 0 #[.val (.int x1), .val (.int x2), .val (.int x3), .val (.int x4), .val (.int x5), .val (.int x6), .unset, .unset, .unset, .unset] [] := by first | (simp [entryFrame, mkF, argsToLocals, Value.category, maxLocals]; done) | rfl
def Q0 (Z : State) (x1 : Int32) (x2 : Int32) (x3 : Int32) (x4 : Int32) (x5 : Int32) (x6 : Int32) (h0 : Heap) (n0 : Nat) (v : Option Value) (h : Heap) (L : List Loc) : Prop := v = some (.int (1 : Int32)) ∧ Fr n0 L
set_option maxRecDepth 65536 in
set_option maxHeartbeats 40000000 in
theorem rm0 (l : Launch) (Z : State) (a0 : Array Value) (hw : ∀ d ∈ tables_1, d.before a0 Z = true) (x1 : Int32) (x2 : Int32) (x3 : Int32) (x4 : Int32) (x5 : Int32) (x6 : Int32) (h0 : Heap) (n0 : Nat) (Zs : n0 ≤ h0.size)  :
    Con l Z x code maxLocals ret room_1 #[(.int x1), (.int x2), (.int x3), (.int x4), (.int x5), (.int x6)] h0 (Q0 Z x1 x2 x3 x4 x5 x6 h0 n0) := by
  refine Con.intro (plainFor_of_name pn1) (fun m => ef_0 m x1 x2 x3 x4 x5 x6) ?_
  intro p e s m below meth c s₁ hx hby hml0 hZ hown hnm hret hlk X0 e0
  have hml : c.maxLocals = 10 := hml0
  have N0 := Fr.nil n0
  have Kp : Keep h0 h0 [] := Keep.refl h0 _
  show Go _ _ _ _ _ _ _ (s₁.setTop (mkF m 0 #[.val (.int x1), .val (.int x2), .val (.int x3), .val (.int x4), .val (.int x5), .val (.int x6), .unset, .unset, .unset, .unset] []))
  obtain ⟨T1, h1, X1, e1, E1, A1, D1, -, st1⟩ := newO X0 hx hZ hown (hw _ (List.mem_of_getElem? (i := 0) rfl)) (hw _ (List.mem_of_getElem? (i := 1) rfl)) (hw _ (List.mem_of_getElem? (i := 2) rfl)) e0 (g := (mkF m 0 #[.val (.int x1), .val (.int x2), .val (.int x3), .val (.int x4), .val (.int x5), .val (.int x6), .unset, .unset, .unset, .unset] [])) rfl (hb hby at_0) (by decide) (by decide)
  obtain ⟨b1, g1⟩ : ∃ z, z = h0.size := ⟨_, rfl⟩
  rw [← g1] at A1 D1 st1
  refine Go.of st1 ?_
  have g_b1 : n0 ≤ b1 := Nat.le_trans Zs (Nat.le_of_eq g1.symm)
  have sz_b1 : h0.size ≤ b1 := Nat.le_trans Kp.1 (Nat.le_of_eq g1.symm)
  have Zs := Nat.le_trans Zs E1.1
  have Kp := Kp.ext E1
  have E_b1 := A1
  have F_b1_members : Fld Z h1 b1 "com/example/quillon/quillon/ir/TemporarySet" "members" "[I" .null := D1 (Or.inr (hw _ (List.mem_of_getElem? (i := 11) rfl))) (ty := (.array .int)) (by decide)
  have F_b1_places : Fld Z h1 b1 "com/example/quillon/quillon/ir/TemporarySet" "places" "[I" .null := D1 (Or.inr (hw _ (List.mem_of_getElem? (i := 13) rfl))) (ty := (.array .int)) (by decide)
  have F_b1_size : Fld Z h1 b1 "com/example/quillon/quillon/ir/TemporarySet" "size" "I" (.int (0 : Int32)) := D1 (Or.inl (hw _ (List.mem_of_getElem? (i := 29) rfl))) (ty := .int) (by decide)
  show Go _ _ _ _ _ _ _ (T1.setTop (mkF m 3 #[.val (.int x1), .val (.int x2), .val (.int x3), .val (.int x4), .val (.int x5), .val (.int x6), .unset, .unset, .unset, .unset] [(.ref b1)]))
  refine Go.of (fun _ q => XS.dup X1.here hx rfl (hb hby at_3) rfl rfl q) ?_
  show Go _ _ _ _ _ _ _ (T1.setTop (mkF m 4 #[.val (.int x1), .val (.int x2), .val (.int x3), .val (.int x4), .val (.int x5), .val (.int x6), .unset, .unset, .unset, .unset] [(.ref b1), (.ref b1)]))
  refine Go.of (fun _ q => XS.iconst X1.here hx rfl (hb hby at_4) q) ?_
  show Go _ _ _ _ _ _ _ (T1.setTop (mkF m 5 #[.val (.int x1), .val (.int x2), .val (.int x3), .val (.int x4), .val (.int x5), .val (.int x6), .unset, .unset, .unset, .unset] [(.int (4 : Int32)), (.ref b1), (.ref b1)]))
  refine Go.special X1 hx hZ (y := (⟨"com/example/quillon/quillon/ir/TemporarySet", "<init>", "(I)V"⟩ : MethodName)) (a := b1) (argsL := [(.int (4 : Int32))]) rfl hown (hw _ (List.mem_of_getElem? (i := 3) rfl)) (hw _ (List.mem_of_getElem? (i := 4) rfl)) (hw _ (List.mem_of_getElem? (i := 2) rfl)) (hw _ (List.mem_of_getElem? (i := 5) rfl)) (by decide) 1 e1 (rm1 l Z a0 hw b1 .null .null h1 n0 Zs E_b1 F_b1_members F_b1_places F_b1_size g_b1) (by decide) (by decide) (by decide) (by decide) (g := (mkF m 5 #[.val (.int x1), .val (.int x2), .val (.int x3), .val (.int x4), .val (.int x5), .val (.int x6), .unset, .unset, .unset, .unset] [(.int (4 : Int32)), (.ref b1), (.ref b1)])) rfl (by rw [hml]; rfl) (rest := [(.ref b1)]) (lenOf pd2 rfl) rfl (by show 2 * 0 + _ ≤ _; exact Nat.le_of_eq rfl) (hb hby at_5) ?_
  intro T2 v2 L2 X2 q2
  obtain ⟨am, ap, km, kp, rfl, Nq2, K2, f2_0, f2_1, f2_2, f2_3, f2_4, f2_5, f2_6, f2_7, f2_8⟩ := q2
  have N2 := Fr.app N0 Nq2
  have g_am : n0 ≤ am := Nat.le_trans Zs f2_1
  have sz_am : h0.size ≤ am := Nat.le_trans Kp.1 f2_1
  have ne_b1_am : b1 ≠ am := Nat.ne_of_lt (Nat.lt_of_lt_of_le E_b1.lt f2_1)
  have g_ap : n0 ≤ ap := Nat.le_trans Zs f2_2
  have sz_ap : h0.size ≤ ap := Nat.le_trans Kp.1 f2_2
  have ne_b1_ap : b1 ≠ ap := Nat.ne_of_lt (Nat.lt_of_lt_of_le E_b1.lt f2_2)
  have Zs := Nat.le_trans Zs K2.1
  have Kp := Kp.trans K2 (allS (P := fun x => x ∈ [] ∨ h0.size ≤ x) (Or.inr sz_b1) all0)
  have E_b1 := E_b1.keep K2
  have F_b1_members := f2_4
  have F_b1_places := f2_5
  have F_b1_size := f2_6
  have A_am := f2_7
  have A_ap := f2_8
  show Go _ _ _ _ _ _ _ (T2.setTop (mkF m 8 #[.val (.int x1), .val (.int x2), .val (.int x3), .val (.int x4), .val (.int x5), .val (.int x6), .unset, .unset, .unset, .unset] [(.ref b1)]))
  refine Go.of (fun _ q => XS.astore X2.here hx rfl (hb hby at_8) rfl rfl (l' := #[.val (.int x1), .val (.int x2), .val (.int x3), .val (.int x4), .val (.int x5), .val (.int x6), .val (.ref b1), .unset, .unset, .unset]) rfl q) ?_
  show Go _ _ _ _ _ _ _ (T2.setTop (mkF m 10 #[.val (.int x1), .val (.int x2), .val (.int x3), .val (.int x4), .val (.int x5), .val (.int x6), .val (.ref b1), .unset, .unset, .unset] []))
  refine Go.of (fun _ q => XS.iconst X2.here hx rfl (hb hby at_10) q) ?_
  show Go _ _ _ _ _ _ _ (T2.setTop (mkF m 11 #[.val (.int x1), .val (.int x2), .val (.int x3), .val (.int x4), .val (.int x5), .val (.int x6), .val (.ref b1), .unset, .unset, .unset] [(.int (0 : Int32))]))
  refine Go.of (fun _ q => XS.istore X2.here hx rfl (hb hby at_11) rfl (l' := #[.val (.int x1), .val (.int x2), .val (.int x3), .val (.int x4), .val (.int x5), .val (.int x6), .val (.ref b1), .val (.int (0 : Int32)), .unset, .unset]) rfl q) ?_
  show Go _ _ _ _ _ _ _ (T2.setTop (mkF m 13 #[.val (.int x1), .val (.int x2), .val (.int x3), .val (.int x4), .val (.int x5), .val (.int x6), .val (.ref b1), .val (.int (0 : Int32)), .unset, .unset] []))
  refine Go.of (fun _ q => XS.aload X2.here hx rfl (hb hby at_13) rfl rfl q) ?_
  show Go _ _ _ _ _ _ _ (T2.setTop (mkF m 15 #[.val (.int x1), .val (.int x2), .val (.int x3), .val (.int x4), .val (.int x5), .val (.int x6), .val (.ref b1), .val (.int (0 : Int32)), .unset, .unset] [(.ref b1)]))
  refine Go.of (fun _ q => XS.iload X2.here hx rfl (hb hby at_15) rfl q) ?_
  show Go _ _ _ _ _ _ _ (T2.setTop (mkF m 17 #[.val (.int x1), .val (.int x2), .val (.int x3), .val (.int x4), .val (.int x5), .val (.int x6), .val (.ref b1), .val (.int (0 : Int32)), .unset, .unset] [(.int (0 : Int32)), (.ref b1)]))
  refine Go.of (fun _ q => XS.iloadN X2.here hx rfl (hb hby at_17) rfl q) ?_
  show Go _ _ _ _ _ _ _ (T2.setTop (mkF m 18 #[.val (.int x1), .val (.int x2), .val (.int x3), .val (.int x4), .val (.int x5), .val (.int x6), .val (.ref b1), .val (.int (0 : Int32)), .unset, .unset] [(.int x1), (.int (0 : Int32)), (.ref b1)]))
  refine Go.static X2 hx hZ (y := (⟨"com/example/quillon/quillon/ir/TemporarySetContainsPinLaw", "step", "(Lcom/example/quillon/quillon/ir/TemporarySet;II)I"⟩ : MethodName)) (argsL := [(.ref b1), (.int (0 : Int32)), (.int x1)]) hown (hw _ (List.mem_of_getElem? (i := 14) rfl)) (hw _ (List.mem_of_getElem? (i := 15) rfl)) (hw _ (List.mem_of_getElem? (i := 16) rfl)) (hw _ (List.mem_of_getElem? (i := 17) rfl)) (by decide) 0 rfl (rm3 l Z a0 hw b1 (0 : Int32) x1 am ap km kp (fun _ => (0 : Int32)) (fun _ => (0 : Int32)) (0 : Int32) T2.heap n0 Zs E_b1 F_b1_members F_b1_places F_b1_size A_am A_ap g_b1 g_am g_ap ne_b1_am ne_b1_ap f2_3 (own_inv_cast own_inv0 (fun n _ => by simp [own_bits]))) (by decide) (by decide) (by decide) (by decide) (g := (mkF m 18 #[.val (.int x1), .val (.int x2), .val (.int x3), .val (.int x4), .val (.int x5), .val (.int x6), .val (.ref b1), .val (.int (0 : Int32)), .unset, .unset] [(.int x1), (.int (0 : Int32)), (.ref b1)])) rfl (by rw [hml]; rfl) (rest := []) (lenOf pd3 rfl) rfl (by show 2 * 0 + _ ≤ _; exact Nat.le_of_eq rfl) (hb hby at_18) ?_
  intro T3 v3 L3 X3 q3
  obtain ⟨mq0, pq0, sq0, rfl, Nq3, K3, f3_0, f3_1, f3_2, f3_3, f3_4, f3_5, f3_6⟩ := q3
  have N3 := Fr.app N2 Nq3
  have Zs := Nat.le_trans Zs K3.1
  have Kp := Kp.trans K3 (allS (P := fun x => x ∈ [] ∨ h0.size ≤ x) (Or.inr sz_b1) (allS (P := fun x => x ∈ [] ∨ h0.size ≤ x) (Or.inr sz_am) (allS (P := fun x => x ∈ [] ∨ h0.size ≤ x) (Or.inr sz_ap) all0)))
  have E_b1 := E_b1.keep K3
  have F_b1_members := f3_1
  have F_b1_places := f3_2
  have F_b1_size := f3_3
  have A_am := f3_4
  have A_ap := f3_5
  have hq_3 := f3_6
  show Go _ _ _ _ _ _ _ (T3.setTop (mkF m 21 #[.val (.int x1), .val (.int x2), .val (.int x3), .val (.int x4), .val (.int x5), .val (.int x6), .val (.ref b1), .val (.int (0 : Int32)), .unset, .unset] [(.int (own_step (0 : Int32) x1))]))
  refine Go.of (fun _ q => XS.istore X3.here hx rfl (hb hby at_21) rfl (l' := #[.val (.int x1), .val (.int x2), .val (.int x3), .val (.int x4), .val (.int x5), .val (.int x6), .val (.ref b1), .val (.int (own_step (0 : Int32) x1)), .unset, .unset]) rfl q) ?_
  show Go _ _ _ _ _ _ _ (T3.setTop (mkF m 23 #[.val (.int x1), .val (.int x2), .val (.int x3), .val (.int x4), .val (.int x5), .val (.int x6), .val (.ref b1), .val (.int (own_step (0 : Int32) x1)), .unset, .unset] []))
  refine Go.of (fun _ q => XS.aload X3.here hx rfl (hb hby at_23) rfl rfl q) ?_
  show Go _ _ _ _ _ _ _ (T3.setTop (mkF m 25 #[.val (.int x1), .val (.int x2), .val (.int x3), .val (.int x4), .val (.int x5), .val (.int x6), .val (.ref b1), .val (.int (own_step (0 : Int32) x1)), .unset, .unset] [(.ref b1)]))
  refine Go.of (fun _ q => XS.iload X3.here hx rfl (hb hby at_25) rfl q) ?_
  show Go _ _ _ _ _ _ _ (T3.setTop (mkF m 27 #[.val (.int x1), .val (.int x2), .val (.int x3), .val (.int x4), .val (.int x5), .val (.int x6), .val (.ref b1), .val (.int (own_step (0 : Int32) x1)), .unset, .unset] [(.int (own_step (0 : Int32) x1)), (.ref b1)]))
  refine Go.of (fun _ q => XS.iloadN X3.here hx rfl (hb hby at_27) rfl q) ?_
  show Go _ _ _ _ _ _ _ (T3.setTop (mkF m 28 #[.val (.int x1), .val (.int x2), .val (.int x3), .val (.int x4), .val (.int x5), .val (.int x6), .val (.ref b1), .val (.int (own_step (0 : Int32) x1)), .unset, .unset] [(.int x2), (.int (own_step (0 : Int32) x1)), (.ref b1)]))
  refine Go.static X3 hx hZ (y := (⟨"com/example/quillon/quillon/ir/TemporarySetContainsPinLaw", "step", "(Lcom/example/quillon/quillon/ir/TemporarySet;II)I"⟩ : MethodName)) (argsL := [(.ref b1), (.int (own_step (0 : Int32) x1)), (.int x2)]) hown (hw _ (List.mem_of_getElem? (i := 14) rfl)) (hw _ (List.mem_of_getElem? (i := 15) rfl)) (hw _ (List.mem_of_getElem? (i := 16) rfl)) (hw _ (List.mem_of_getElem? (i := 17) rfl)) (by decide) 0 rfl (rm3 l Z a0 hw b1 (own_step (0 : Int32) x1) x2 am ap km kp mq0 pq0 sq0 T3.heap n0 Zs E_b1 F_b1_members F_b1_places F_b1_size A_am A_ap g_b1 g_am g_ap ne_b1_am ne_b1_ap f2_3 hq_3) (by decide) (by decide) (by decide) (by decide) (g := (mkF m 28 #[.val (.int x1), .val (.int x2), .val (.int x3), .val (.int x4), .val (.int x5), .val (.int x6), .val (.ref b1), .val (.int (own_step (0 : Int32) x1)), .unset, .unset] [(.int x2), (.int (own_step (0 : Int32) x1)), (.ref b1)])) rfl (by rw [hml]; rfl) (rest := []) (lenOf pd3 rfl) rfl (by show 2 * 0 + _ ≤ _; exact Nat.le_of_eq rfl) (hb hby at_28) ?_
  intro T4 v4 L4 X4 q4
  obtain ⟨mq1, pq1, sq1, rfl, Nq4, K4, f4_0, f4_1, f4_2, f4_3, f4_4, f4_5, f4_6⟩ := q4
  have N4 := Fr.app N3 Nq4
  have Zs := Nat.le_trans Zs K4.1
  have Kp := Kp.trans K4 (allS (P := fun x => x ∈ [] ∨ h0.size ≤ x) (Or.inr sz_b1) (allS (P := fun x => x ∈ [] ∨ h0.size ≤ x) (Or.inr sz_am) (allS (P := fun x => x ∈ [] ∨ h0.size ≤ x) (Or.inr sz_ap) all0)))
  have E_b1 := E_b1.keep K4
  have F_b1_members := f4_1
  have F_b1_places := f4_2
  have F_b1_size := f4_3
  have A_am := f4_4
  have A_ap := f4_5
  have hq_4 := f4_6
  show Go _ _ _ _ _ _ _ (T4.setTop (mkF m 31 #[.val (.int x1), .val (.int x2), .val (.int x3), .val (.int x4), .val (.int x5), .val (.int x6), .val (.ref b1), .val (.int (own_step (0 : Int32) x1)), .unset, .unset] [(.int (own_step (own_step (0 : Int32) x1) x2))]))
  refine Go.of (fun _ q => XS.istore X4.here hx rfl (hb hby at_31) rfl (l' := #[.val (.int x1), .val (.int x2), .val (.int x3), .val (.int x4), .val (.int x5), .val (.int x6), .val (.ref b1), .val (.int (own_step (own_step (0 : Int32) x1) x2)), .unset, .unset]) rfl q) ?_
  show Go _ _ _ _ _ _ _ (T4.setTop (mkF m 33 #[.val (.int x1), .val (.int x2), .val (.int x3), .val (.int x4), .val (.int x5), .val (.int x6), .val (.ref b1), .val (.int (own_step (own_step (0 : Int32) x1) x2)), .unset, .unset] []))
  refine Go.of (fun _ q => XS.aload X4.here hx rfl (hb hby at_33) rfl rfl q) ?_
  show Go _ _ _ _ _ _ _ (T4.setTop (mkF m 35 #[.val (.int x1), .val (.int x2), .val (.int x3), .val (.int x4), .val (.int x5), .val (.int x6), .val (.ref b1), .val (.int (own_step (own_step (0 : Int32) x1) x2)), .unset, .unset] [(.ref b1)]))
  refine Go.of (fun _ q => XS.iload X4.here hx rfl (hb hby at_35) rfl q) ?_
  show Go _ _ _ _ _ _ _ (T4.setTop (mkF m 37 #[.val (.int x1), .val (.int x2), .val (.int x3), .val (.int x4), .val (.int x5), .val (.int x6), .val (.ref b1), .val (.int (own_step (own_step (0 : Int32) x1) x2)), .unset, .unset] [(.int (own_step (own_step (0 : Int32) x1) x2)), (.ref b1)]))
  refine Go.of (fun _ q => XS.iloadN X4.here hx rfl (hb hby at_37) rfl q) ?_
  show Go _ _ _ _ _ _ _ (T4.setTop (mkF m 38 #[.val (.int x1), .val (.int x2), .val (.int x3), .val (.int x4), .val (.int x5), .val (.int x6), .val (.ref b1), .val (.int (own_step (own_step (0 : Int32) x1) x2)), .unset, .unset] [(.int x3), (.int (own_step (own_step (0 : Int32) x1) x2)), (.ref b1)]))
  refine Go.static X4 hx hZ (y := (⟨"com/example/quillon/quillon/ir/TemporarySetContainsPinLaw", "step", "(Lcom/example/quillon/quillon/ir/TemporarySet;II)I"⟩ : MethodName)) (argsL := [(.ref b1), (.int (own_step (own_step (0 : Int32) x1) x2)), (.int x3)]) hown (hw _ (List.mem_of_getElem? (i := 14) rfl)) (hw _ (List.mem_of_getElem? (i := 15) rfl)) (hw _ (List.mem_of_getElem? (i := 16) rfl)) (hw _ (List.mem_of_getElem? (i := 17) rfl)) (by decide) 0 rfl (rm3 l Z a0 hw b1 (own_step (own_step (0 : Int32) x1) x2) x3 am ap km kp mq1 pq1 sq1 T4.heap n0 Zs E_b1 F_b1_members F_b1_places F_b1_size A_am A_ap g_b1 g_am g_ap ne_b1_am ne_b1_ap f2_3 hq_4) (by decide) (by decide) (by decide) (by decide) (g := (mkF m 38 #[.val (.int x1), .val (.int x2), .val (.int x3), .val (.int x4), .val (.int x5), .val (.int x6), .val (.ref b1), .val (.int (own_step (own_step (0 : Int32) x1) x2)), .unset, .unset] [(.int x3), (.int (own_step (own_step (0 : Int32) x1) x2)), (.ref b1)])) rfl (by rw [hml]; rfl) (rest := []) (lenOf pd3 rfl) rfl (by show 2 * 0 + _ ≤ _; exact Nat.le_of_eq rfl) (hb hby at_38) ?_
  intro T5 v5 L5 X5 q5
  obtain ⟨mq2, pq2, sq2, rfl, Nq5, K5, f5_0, f5_1, f5_2, f5_3, f5_4, f5_5, f5_6⟩ := q5
  have N5 := Fr.app N4 Nq5
  have Zs := Nat.le_trans Zs K5.1
  have Kp := Kp.trans K5 (allS (P := fun x => x ∈ [] ∨ h0.size ≤ x) (Or.inr sz_b1) (allS (P := fun x => x ∈ [] ∨ h0.size ≤ x) (Or.inr sz_am) (allS (P := fun x => x ∈ [] ∨ h0.size ≤ x) (Or.inr sz_ap) all0)))
  have E_b1 := E_b1.keep K5
  have F_b1_members := f5_1
  have F_b1_places := f5_2
  have F_b1_size := f5_3
  have A_am := f5_4
  have A_ap := f5_5
  have hq_5 := f5_6
  show Go _ _ _ _ _ _ _ (T5.setTop (mkF m 41 #[.val (.int x1), .val (.int x2), .val (.int x3), .val (.int x4), .val (.int x5), .val (.int x6), .val (.ref b1), .val (.int (own_step (own_step (0 : Int32) x1) x2)), .unset, .unset] [(.int (own_step (own_step (own_step (0 : Int32) x1) x2) x3))]))
  refine Go.of (fun _ q => XS.istore X5.here hx rfl (hb hby at_41) rfl (l' := #[.val (.int x1), .val (.int x2), .val (.int x3), .val (.int x4), .val (.int x5), .val (.int x6), .val (.ref b1), .val (.int (own_step (own_step (own_step (0 : Int32) x1) x2) x3)), .unset, .unset]) rfl q) ?_
  show Go _ _ _ _ _ _ _ (T5.setTop (mkF m 43 #[.val (.int x1), .val (.int x2), .val (.int x3), .val (.int x4), .val (.int x5), .val (.int x6), .val (.ref b1), .val (.int (own_step (own_step (own_step (0 : Int32) x1) x2) x3)), .unset, .unset] []))
  refine Go.of (fun _ q => XS.aload X5.here hx rfl (hb hby at_43) rfl rfl q) ?_
  show Go _ _ _ _ _ _ _ (T5.setTop (mkF m 45 #[.val (.int x1), .val (.int x2), .val (.int x3), .val (.int x4), .val (.int x5), .val (.int x6), .val (.ref b1), .val (.int (own_step (own_step (own_step (0 : Int32) x1) x2) x3)), .unset, .unset] [(.ref b1)]))
  refine Go.of (fun _ q => XS.iload X5.here hx rfl (hb hby at_45) rfl q) ?_
  show Go _ _ _ _ _ _ _ (T5.setTop (mkF m 47 #[.val (.int x1), .val (.int x2), .val (.int x3), .val (.int x4), .val (.int x5), .val (.int x6), .val (.ref b1), .val (.int (own_step (own_step (own_step (0 : Int32) x1) x2) x3)), .unset, .unset] [(.int (own_step (own_step (own_step (0 : Int32) x1) x2) x3)), (.ref b1)]))
  refine Go.of (fun _ q => XS.iloadN X5.here hx rfl (hb hby at_47) rfl q) ?_
  show Go _ _ _ _ _ _ _ (T5.setTop (mkF m 48 #[.val (.int x1), .val (.int x2), .val (.int x3), .val (.int x4), .val (.int x5), .val (.int x6), .val (.ref b1), .val (.int (own_step (own_step (own_step (0 : Int32) x1) x2) x3)), .unset, .unset] [(.int x4), (.int (own_step (own_step (own_step (0 : Int32) x1) x2) x3)), (.ref b1)]))
  refine Go.static X5 hx hZ (y := (⟨"com/example/quillon/quillon/ir/TemporarySetContainsPinLaw", "step", "(Lcom/example/quillon/quillon/ir/TemporarySet;II)I"⟩ : MethodName)) (argsL := [(.ref b1), (.int (own_step (own_step (own_step (0 : Int32) x1) x2) x3)), (.int x4)]) hown (hw _ (List.mem_of_getElem? (i := 14) rfl)) (hw _ (List.mem_of_getElem? (i := 15) rfl)) (hw _ (List.mem_of_getElem? (i := 16) rfl)) (hw _ (List.mem_of_getElem? (i := 17) rfl)) (by decide) 0 rfl (rm3 l Z a0 hw b1 (own_step (own_step (own_step (0 : Int32) x1) x2) x3) x4 am ap km kp mq2 pq2 sq2 T5.heap n0 Zs E_b1 F_b1_members F_b1_places F_b1_size A_am A_ap g_b1 g_am g_ap ne_b1_am ne_b1_ap f2_3 hq_5) (by decide) (by decide) (by decide) (by decide) (g := (mkF m 48 #[.val (.int x1), .val (.int x2), .val (.int x3), .val (.int x4), .val (.int x5), .val (.int x6), .val (.ref b1), .val (.int (own_step (own_step (own_step (0 : Int32) x1) x2) x3)), .unset, .unset] [(.int x4), (.int (own_step (own_step (own_step (0 : Int32) x1) x2) x3)), (.ref b1)])) rfl (by rw [hml]; rfl) (rest := []) (lenOf pd3 rfl) rfl (by show 2 * 0 + _ ≤ _; exact Nat.le_of_eq rfl) (hb hby at_48) ?_
  intro T6 v6 L6 X6 q6
  obtain ⟨mq3, pq3, sq3, rfl, Nq6, K6, f6_0, f6_1, f6_2, f6_3, f6_4, f6_5, f6_6⟩ := q6
  have N6 := Fr.app N5 Nq6
  have Zs := Nat.le_trans Zs K6.1
  have Kp := Kp.trans K6 (allS (P := fun x => x ∈ [] ∨ h0.size ≤ x) (Or.inr sz_b1) (allS (P := fun x => x ∈ [] ∨ h0.size ≤ x) (Or.inr sz_am) (allS (P := fun x => x ∈ [] ∨ h0.size ≤ x) (Or.inr sz_ap) all0)))
  have E_b1 := E_b1.keep K6
  have F_b1_members := f6_1
  have F_b1_places := f6_2
  have F_b1_size := f6_3
  have A_am := f6_4
  have A_ap := f6_5
  have hq_6 := f6_6
  show Go _ _ _ _ _ _ _ (T6.setTop (mkF m 51 #[.val (.int x1), .val (.int x2), .val (.int x3), .val (.int x4), .val (.int x5), .val (.int x6), .val (.ref b1), .val (.int (own_step (own_step (own_step (0 : Int32) x1) x2) x3)), .unset, .unset] [(.int (own_step (own_step (own_step (own_step (0 : Int32) x1) x2) x3) x4))]))
  refine Go.of (fun _ q => XS.istore X6.here hx rfl (hb hby at_51) rfl (l' := #[.val (.int x1), .val (.int x2), .val (.int x3), .val (.int x4), .val (.int x5), .val (.int x6), .val (.ref b1), .val (.int (own_step (own_step (own_step (own_step (0 : Int32) x1) x2) x3) x4)), .unset, .unset]) rfl q) ?_
  show Go _ _ _ _ _ _ _ (T6.setTop (mkF m 53 #[.val (.int x1), .val (.int x2), .val (.int x3), .val (.int x4), .val (.int x5), .val (.int x6), .val (.ref b1), .val (.int (own_step (own_step (own_step (own_step (0 : Int32) x1) x2) x3) x4)), .unset, .unset] []))
  refine Go.of (fun _ q => XS.aload X6.here hx rfl (hb hby at_53) rfl rfl q) ?_
  show Go _ _ _ _ _ _ _ (T6.setTop (mkF m 55 #[.val (.int x1), .val (.int x2), .val (.int x3), .val (.int x4), .val (.int x5), .val (.int x6), .val (.ref b1), .val (.int (own_step (own_step (own_step (own_step (0 : Int32) x1) x2) x3) x4)), .unset, .unset] [(.ref b1)]))
  refine Go.of (fun _ q => XS.iload X6.here hx rfl (hb hby at_55) rfl q) ?_
  show Go _ _ _ _ _ _ _ (T6.setTop (mkF m 57 #[.val (.int x1), .val (.int x2), .val (.int x3), .val (.int x4), .val (.int x5), .val (.int x6), .val (.ref b1), .val (.int (own_step (own_step (own_step (own_step (0 : Int32) x1) x2) x3) x4)), .unset, .unset] [(.int (own_step (own_step (own_step (own_step (0 : Int32) x1) x2) x3) x4)), (.ref b1)]))
  refine Go.of (fun _ q => XS.iload X6.here hx rfl (hb hby at_57) rfl q) ?_
  show Go _ _ _ _ _ _ _ (T6.setTop (mkF m 59 #[.val (.int x1), .val (.int x2), .val (.int x3), .val (.int x4), .val (.int x5), .val (.int x6), .val (.ref b1), .val (.int (own_step (own_step (own_step (own_step (0 : Int32) x1) x2) x3) x4)), .unset, .unset] [(.int x5), (.int (own_step (own_step (own_step (own_step (0 : Int32) x1) x2) x3) x4)), (.ref b1)]))
  refine Go.static X6 hx hZ (y := (⟨"com/example/quillon/quillon/ir/TemporarySetContainsPinLaw", "step", "(Lcom/example/quillon/quillon/ir/TemporarySet;II)I"⟩ : MethodName)) (argsL := [(.ref b1), (.int (own_step (own_step (own_step (own_step (0 : Int32) x1) x2) x3) x4)), (.int x5)]) hown (hw _ (List.mem_of_getElem? (i := 14) rfl)) (hw _ (List.mem_of_getElem? (i := 15) rfl)) (hw _ (List.mem_of_getElem? (i := 16) rfl)) (hw _ (List.mem_of_getElem? (i := 17) rfl)) (by decide) 0 rfl (rm3 l Z a0 hw b1 (own_step (own_step (own_step (own_step (0 : Int32) x1) x2) x3) x4) x5 am ap km kp mq3 pq3 sq3 T6.heap n0 Zs E_b1 F_b1_members F_b1_places F_b1_size A_am A_ap g_b1 g_am g_ap ne_b1_am ne_b1_ap f2_3 hq_6) (by decide) (by decide) (by decide) (by decide) (g := (mkF m 59 #[.val (.int x1), .val (.int x2), .val (.int x3), .val (.int x4), .val (.int x5), .val (.int x6), .val (.ref b1), .val (.int (own_step (own_step (own_step (own_step (0 : Int32) x1) x2) x3) x4)), .unset, .unset] [(.int x5), (.int (own_step (own_step (own_step (own_step (0 : Int32) x1) x2) x3) x4)), (.ref b1)])) rfl (by rw [hml]; rfl) (rest := []) (lenOf pd3 rfl) rfl (by show 2 * 0 + _ ≤ _; exact Nat.le_of_eq rfl) (hb hby at_59) ?_
  intro T7 v7 L7 X7 q7
  obtain ⟨mq4, pq4, sq4, rfl, Nq7, K7, f7_0, f7_1, f7_2, f7_3, f7_4, f7_5, f7_6⟩ := q7
  have N7 := Fr.app N6 Nq7
  have Zs := Nat.le_trans Zs K7.1
  have Kp := Kp.trans K7 (allS (P := fun x => x ∈ [] ∨ h0.size ≤ x) (Or.inr sz_b1) (allS (P := fun x => x ∈ [] ∨ h0.size ≤ x) (Or.inr sz_am) (allS (P := fun x => x ∈ [] ∨ h0.size ≤ x) (Or.inr sz_ap) all0)))
  have E_b1 := E_b1.keep K7
  have F_b1_members := f7_1
  have F_b1_places := f7_2
  have F_b1_size := f7_3
  have A_am := f7_4
  have A_ap := f7_5
  have hq_7 := f7_6
  show Go _ _ _ _ _ _ _ (T7.setTop (mkF m 62 #[.val (.int x1), .val (.int x2), .val (.int x3), .val (.int x4), .val (.int x5), .val (.int x6), .val (.ref b1), .val (.int (own_step (own_step (own_step (own_step (0 : Int32) x1) x2) x3) x4)), .unset, .unset] [(.int (own_step (own_step (own_step (own_step (own_step (0 : Int32) x1) x2) x3) x4) x5))]))
  refine Go.of (fun _ q => XS.istore X7.here hx rfl (hb hby at_62) rfl (l' := #[.val (.int x1), .val (.int x2), .val (.int x3), .val (.int x4), .val (.int x5), .val (.int x6), .val (.ref b1), .val (.int (own_step (own_step (own_step (own_step (own_step (0 : Int32) x1) x2) x3) x4) x5)), .unset, .unset]) rfl q) ?_
  obtain ⟨k, hk, hxk⟩ := own_four x6
  show Go _ _ _ _ _ _ _ (T7.setTop (mkF m 64 #[.val (.int x1), .val (.int x2), .val (.int x3), .val (.int x4), .val (.int x5), .val (.int x6), .val (.ref b1), .val (.int (own_step (own_step (own_step (own_step (own_step (0 : Int32) x1) x2) x3) x4) x5)), .unset, .unset] []))
  refine Go.of (fun _ q => XS.iload X7.here hx rfl (hb hby at_64) rfl q) ?_
  show Go _ _ _ _ _ _ _ (T7.setTop (mkF m 66 #[.val (.int x1), .val (.int x2), .val (.int x3), .val (.int x4), .val (.int x5), .val (.int x6), .val (.ref b1), .val (.int (own_step (own_step (own_step (own_step (own_step (0 : Int32) x1) x2) x3) x4) x5)), .unset, .unset] [(.int x6)]))
  refine Go.of (fun _ q => XS.iconst X7.here hx rfl (hb hby at_66) q) ?_
  show Go _ _ _ _ _ _ _ (T7.setTop (mkF m 67 #[.val (.int x1), .val (.int x2), .val (.int x3), .val (.int x4), .val (.int x5), .val (.int x6), .val (.ref b1), .val (.int (own_step (own_step (own_step (own_step (own_step (0 : Int32) x1) x2) x3) x4) x5)), .unset, .unset] [(.int (3 : Int32)), (.int x6)]))
  refine Go.of (fun _ q => XS.iand X7.here hx rfl (hb hby at_67) rfl q) ?_
  show Go _ _ _ _ _ _ _ (T7.setTop (mkF m 68 #[.val (.int x1), .val (.int x2), .val (.int x3), .val (.int x4), .val (.int x5), .val (.int x6), .val (.ref b1), .val (.int (own_step (own_step (own_step (own_step (own_step (0 : Int32) x1) x2) x3) x4) x5)), .unset, .unset] [(.int (x6 &&& (3 : Int32)))]))
  refine Go.of (fun _ q => XS.istore X7.here hx rfl (hb hby at_68) rfl (l' := #[.val (.int x1), .val (.int x2), .val (.int x3), .val (.int x4), .val (.int x5), .val (.int x6), .val (.ref b1), .val (.int (own_step (own_step (own_step (own_step (own_step (0 : Int32) x1) x2) x3) x4) x5)), .val (.int (x6 &&& (3 : Int32))), .unset]) rfl q) ?_
  show Go _ _ _ _ _ _ _ (T7.setTop (mkF m 70 #[.val (.int x1), .val (.int x2), .val (.int x3), .val (.int x4), .val (.int x5), .val (.int x6), .val (.ref b1), .val (.int (own_step (own_step (own_step (own_step (own_step (0 : Int32) x1) x2) x3) x4) x5)), .val (.int (x6 &&& (3 : Int32))), .unset] []))
  refine Go.of (fun _ q => XS.iload X7.here hx rfl (hb hby at_70) rfl q) ?_
  show Go _ _ _ _ _ _ _ (T7.setTop (mkF m 72 #[.val (.int x1), .val (.int x2), .val (.int x3), .val (.int x4), .val (.int x5), .val (.int x6), .val (.ref b1), .val (.int (own_step (own_step (own_step (own_step (own_step (0 : Int32) x1) x2) x3) x4) x5)), .val (.int (x6 &&& (3 : Int32))), .unset] [(.int (own_step (own_step (own_step (own_step (own_step (0 : Int32) x1) x2) x3) x4) x5))]))
  refine Go.of (fun _ q => XS.iload X7.here hx rfl (hb hby at_72) rfl q) ?_
  show Go _ _ _ _ _ _ _ (T7.setTop (mkF m 74 #[.val (.int x1), .val (.int x2), .val (.int x3), .val (.int x4), .val (.int x5), .val (.int x6), .val (.ref b1), .val (.int (own_step (own_step (own_step (own_step (own_step (0 : Int32) x1) x2) x3) x4) x5)), .val (.int (x6 &&& (3 : Int32))), .unset] [(.int (x6 &&& (3 : Int32))), (.int (own_step (own_step (own_step (own_step (own_step (0 : Int32) x1) x2) x3) x4) x5))]))
  refine Go.of (fun _ q => XS.iushr X7.here hx rfl (hb hby at_74) rfl q) ?_
  show Go _ _ _ _ _ _ _ (T7.setTop (mkF m 75 #[.val (.int x1), .val (.int x2), .val (.int x3), .val (.int x4), .val (.int x5), .val (.int x6), .val (.ref b1), .val (.int (own_step (own_step (own_step (own_step (own_step (0 : Int32) x1) x2) x3) x4) x5)), .val (.int (x6 &&& (3 : Int32))), .unset] [(.int (((own_step (own_step (own_step (own_step (own_step (0 : Int32) x1) x2) x3) x4) x5).toUInt32 >>> ((x6 &&& (3 : Int32)) &&& 31).toUInt32).toInt32))]))
  refine Go.of (fun _ q => XS.iconst X7.here hx rfl (hb hby at_75) q) ?_
  show Go _ _ _ _ _ _ _ (T7.setTop (mkF m 76 #[.val (.int x1), .val (.int x2), .val (.int x3), .val (.int x4), .val (.int x5), .val (.int x6), .val (.ref b1), .val (.int (own_step (own_step (own_step (own_step (own_step (0 : Int32) x1) x2) x3) x4) x5)), .val (.int (x6 &&& (3 : Int32))), .unset] [(.int (1 : Int32)), (.int (((own_step (own_step (own_step (own_step (own_step (0 : Int32) x1) x2) x3) x4) x5).toUInt32 >>> ((x6 &&& (3 : Int32)) &&& 31).toUInt32).toInt32))]))
  refine Go.of (fun _ q => XS.iand X7.here hx rfl (hb hby at_76) rfl q) ?_
  show Go _ _ _ _ _ _ _ (T7.setTop (mkF m 77 #[.val (.int x1), .val (.int x2), .val (.int x3), .val (.int x4), .val (.int x5), .val (.int x6), .val (.ref b1), .val (.int (own_step (own_step (own_step (own_step (own_step (0 : Int32) x1) x2) x3) x4) x5)), .val (.int (x6 &&& (3 : Int32))), .unset] [(.int ((((own_step (own_step (own_step (own_step (own_step (0 : Int32) x1) x2) x3) x4) x5).toUInt32 >>> ((x6 &&& (3 : Int32)) &&& 31).toUInt32).toInt32) &&& (1 : Int32)))]))
  have J8 : ∀ (zJ8_0 : Int32), zJ8_0 = (if ((((own_step (own_step (own_step (own_step (own_step (0 : Int32) x1) x2) x3) x4) x5).toUInt32 >>> ((x6 &&& (3 : Int32)) &&& 31).toUInt32).toInt32) &&& (1 : Int32)) = (0 : Int32) then (0 : Int32) else (1 : Int32)) → Go p e below s room_1.cells room_1.slots (Q0 Z x1 x2 x3 x4 x5 x6 h0 n0) (T7.setTop (mkF m 85 #[.val (.int x1), .val (.int x2), .val (.int x3), .val (.int x4), .val (.int x5), .val (.int x6), .val (.ref b1), .val (.int (own_step (own_step (own_step (own_step (own_step (0 : Int32) x1) x2) x3) x4) x5)), .val (.int (x6 &&& (3 : Int32))), .unset] [(.int zJ8_0)])) := by
    intro zJ8_0 hzJ8_0
    subst hzJ8_0
    show Go _ _ _ _ _ _ _ (T7.setTop (mkF m 85 #[.val (.int x1), .val (.int x2), .val (.int x3), .val (.int x4), .val (.int x5), .val (.int x6), .val (.ref b1), .val (.int (own_step (own_step (own_step (own_step (own_step (0 : Int32) x1) x2) x3) x4) x5)), .val (.int (x6 &&& (3 : Int32))), .unset] [(.int (if ((((own_step (own_step (own_step (own_step (own_step (0 : Int32) x1) x2) x3) x4) x5).toUInt32 >>> ((x6 &&& (3 : Int32)) &&& 31).toUInt32).toInt32) &&& (1 : Int32)) = (0 : Int32) then (0 : Int32) else (1 : Int32)))]))
    refine Go.of (fun _ q => XS.istore X7.here hx rfl (hb hby at_85) rfl (l' := #[.val (.int x1), .val (.int x2), .val (.int x3), .val (.int x4), .val (.int x5), .val (.int x6), .val (.ref b1), .val (.int (own_step (own_step (own_step (own_step (own_step (0 : Int32) x1) x2) x3) x4) x5)), .val (.int (x6 &&& (3 : Int32))), .val (.int (if ((((own_step (own_step (own_step (own_step (own_step (0 : Int32) x1) x2) x3) x4) x5).toUInt32 >>> ((x6 &&& (3 : Int32)) &&& 31).toUInt32).toInt32) &&& (1 : Int32)) = (0 : Int32) then (0 : Int32) else (1 : Int32)))]) rfl q) ?_
    show Go _ _ _ _ _ _ _ (T7.setTop (mkF m 87 #[.val (.int x1), .val (.int x2), .val (.int x3), .val (.int x4), .val (.int x5), .val (.int x6), .val (.ref b1), .val (.int (own_step (own_step (own_step (own_step (own_step (0 : Int32) x1) x2) x3) x4) x5)), .val (.int (x6 &&& (3 : Int32))), .val (.int (if ((((own_step (own_step (own_step (own_step (own_step (0 : Int32) x1) x2) x3) x4) x5).toUInt32 >>> ((x6 &&& (3 : Int32)) &&& 31).toUInt32).toInt32) &&& (1 : Int32)) = (0 : Int32) then (0 : Int32) else (1 : Int32)))] []))
    refine Go.of (fun _ q => XS.aload X7.here hx rfl (hb hby at_87) rfl rfl q) ?_
    show Go _ _ _ _ _ _ _ (T7.setTop (mkF m 89 #[.val (.int x1), .val (.int x2), .val (.int x3), .val (.int x4), .val (.int x5), .val (.int x6), .val (.ref b1), .val (.int (own_step (own_step (own_step (own_step (own_step (0 : Int32) x1) x2) x3) x4) x5)), .val (.int (x6 &&& (3 : Int32))), .val (.int (if ((((own_step (own_step (own_step (own_step (own_step (0 : Int32) x1) x2) x3) x4) x5).toUInt32 >>> ((x6 &&& (3 : Int32)) &&& 31).toUInt32).toInt32) &&& (1 : Int32)) = (0 : Int32) then (0 : Int32) else (1 : Int32)))] [(.ref b1)]))
    refine Go.of (fun _ q => XS.iload X7.here hx rfl (hb hby at_89) rfl q) ?_
    show Go _ _ _ _ _ _ _ (T7.setTop (mkF m 91 #[.val (.int x1), .val (.int x2), .val (.int x3), .val (.int x4), .val (.int x5), .val (.int x6), .val (.ref b1), .val (.int (own_step (own_step (own_step (own_step (own_step (0 : Int32) x1) x2) x3) x4) x5)), .val (.int (x6 &&& (3 : Int32))), .val (.int (if ((((own_step (own_step (own_step (own_step (own_step (0 : Int32) x1) x2) x3) x4) x5).toUInt32 >>> ((x6 &&& (3 : Int32)) &&& 31).toUInt32).toInt32) &&& (1 : Int32)) = (0 : Int32) then (0 : Int32) else (1 : Int32)))] [(.int (x6 &&& (3 : Int32))), (.ref b1)]))
    refine Go.virtual X7 hx hZ (y := (⟨"com/example/quillon/quillon/ir/TemporarySet", "contains", "(I)Z"⟩ : MethodName)) (z := (⟨"com/example/quillon/quillon/ir/TemporarySet", "contains", "(I)Z"⟩ : MethodName)) (a := b1) (argsL := [(.int (x6 &&& (3 : Int32)))]) hown (hw _ (List.mem_of_getElem? (i := 30) rfl)) (hw _ (List.mem_of_getElem? (i := 24) rfl)) (notFace_of_selects (args := #[]) (mvT hZ (hw _ (List.mem_of_getElem? (i := 26) rfl)))) (hw _ (List.mem_of_getElem? (i := 26) rfl)) (hw _ (List.mem_of_getElem? (i := 25) rfl)) (hw _ (List.mem_of_getElem? (i := 2) rfl)) (hw _ (List.mem_of_getElem? (i := 27) rfl)) (by decide) 0 rfl E_b1 (rm5 l Z a0 hw b1 (x6 &&& (3 : Int32)) am ap km kp mq4 pq4 sq4 (own_bits (own_step (own_step (own_step (own_step (own_step (0 : Int32) x1) x2) x3) x4) x5)) k T7.heap n0 Zs F_b1_members F_b1_places F_b1_size A_am A_ap hq_7 hk hxk) (by decide) (by decide) (by decide) (by decide) (g := (mkF m 91 #[.val (.int x1), .val (.int x2), .val (.int x3), .val (.int x4), .val (.int x5), .val (.int x6), .val (.ref b1), .val (.int (own_step (own_step (own_step (own_step (own_step (0 : Int32) x1) x2) x3) x4) x5)), .val (.int (x6 &&& (3 : Int32))), .val (.int (if ((((own_step (own_step (own_step (own_step (own_step (0 : Int32) x1) x2) x3) x4) x5).toUInt32 >>> ((x6 &&& (3 : Int32)) &&& 31).toUInt32).toInt32) &&& (1 : Int32)) = (0 : Int32) then (0 : Int32) else (1 : Int32)))] [(.int (x6 &&& (3 : Int32))), (.ref b1)])) rfl (by rw [hml]; rfl) (rest := []) (lenOf pd0 rfl) rfl (by show 2 * 0 + _ ≤ _; exact Nat.le_of_eq rfl) (hb hby at_91) ?_
    intro T9 v9 L9 X9 q9
    obtain ⟨rfl, Nq9, e9⟩ := q9
    have N9 := Fr.app N7 Nq9
    show Go _ _ _ _ _ _ _ (T9.setTop (mkF m 94 #[.val (.int x1), .val (.int x2), .val (.int x3), .val (.int x4), .val (.int x5), .val (.int x6), .val (.ref b1), .val (.int (own_step (own_step (own_step (own_step (own_step (0 : Int32) x1) x2) x3) x4) x5)), .val (.int (x6 &&& (3 : Int32))), .val (.int (if ((((own_step (own_step (own_step (own_step (own_step (0 : Int32) x1) x2) x3) x4) x5).toUInt32 >>> ((x6 &&& (3 : Int32)) &&& 31).toUInt32).toInt32) &&& (1 : Int32)) = (0 : Int32) then (0 : Int32) else (1 : Int32)))] [(.int (own_b ((own_bits (own_step (own_step (own_step (own_step (own_step (0 : Int32) x1) x2) x3) x4) x5)) k)))]))
    refine Go.of (fun _ q => XS.iload X9.here hx rfl (hb hby at_94) rfl q) ?_
    show Go _ _ _ _ _ _ _ (T9.setTop (mkF m 96 #[.val (.int x1), .val (.int x2), .val (.int x3), .val (.int x4), .val (.int x5), .val (.int x6), .val (.ref b1), .val (.int (own_step (own_step (own_step (own_step (own_step (0 : Int32) x1) x2) x3) x4) x5)), .val (.int (x6 &&& (3 : Int32))), .val (.int (if ((((own_step (own_step (own_step (own_step (own_step (0 : Int32) x1) x2) x3) x4) x5).toUInt32 >>> ((x6 &&& (3 : Int32)) &&& 31).toUInt32).toInt32) &&& (1 : Int32)) = (0 : Int32) then (0 : Int32) else (1 : Int32)))] [(.int (if ((((own_step (own_step (own_step (own_step (own_step (0 : Int32) x1) x2) x3) x4) x5).toUInt32 >>> ((x6 &&& (3 : Int32)) &&& 31).toUInt32).toInt32) &&& (1 : Int32)) = (0 : Int32) then (0 : Int32) else (1 : Int32))), (.int (own_b ((own_bits (own_step (own_step (own_step (own_step (own_step (0 : Int32) x1) x2) x3) x4) x5)) k)))]))
    refine Go.of (fun _ q => XS.icmpNo X9.here hx rfl (hb hby at_96) rfl (teq (own_end _ _ hk hxk)).2 q) ?_
    show Go _ _ _ _ _ _ _ (T9.setTop (mkF m 99 #[.val (.int x1), .val (.int x2), .val (.int x3), .val (.int x4), .val (.int x5), .val (.int x6), .val (.ref b1), .val (.int (own_step (own_step (own_step (own_step (own_step (0 : Int32) x1) x2) x3) x4) x5)), .val (.int (x6 &&& (3 : Int32))), .val (.int (if ((((own_step (own_step (own_step (own_step (own_step (0 : Int32) x1) x2) x3) x4) x5).toUInt32 >>> ((x6 &&& (3 : Int32)) &&& 31).toUInt32).toInt32) &&& (1 : Int32)) = (0 : Int32) then (0 : Int32) else (1 : Int32)))] []))
    refine Go.of (fun _ q => XS.iconst X9.here hx rfl (hb hby at_99) q) ?_
    show Go _ _ _ _ _ _ _ (T9.setTop (mkF m 100 #[.val (.int x1), .val (.int x2), .val (.int x3), .val (.int x4), .val (.int x5), .val (.int x6), .val (.ref b1), .val (.int (own_step (own_step (own_step (own_step (own_step (0 : Int32) x1) x2) x3) x4) x5)), .val (.int (x6 &&& (3 : Int32))), .val (.int (if ((((own_step (own_step (own_step (own_step (own_step (0 : Int32) x1) x2) x3) x4) x5).toUInt32 >>> ((x6 &&& (3 : Int32)) &&& 31).toUInt32).toInt32) &&& (1 : Int32)) = (0 : Int32) then (0 : Int32) else (1 : Int32)))] [(.int (1 : Int32))]))
    refine Go.of (fun _ q => XS.goto X9.here hx rfl (pc0 := 100) (pc' := 104) rfl (hb hby at_100) (by decide) (by decide) q) ?_
    show Go _ _ _ _ _ _ _ (T9.setTop (mkF m 104 #[.val (.int x1), .val (.int x2), .val (.int x3), .val (.int x4), .val (.int x5), .val (.int x6), .val (.ref b1), .val (.int (own_step (own_step (own_step (own_step (own_step (0 : Int32) x1) x2) x3) x4) x5)), .val (.int (x6 &&& (3 : Int32))), .val (.int (if ((((own_step (own_step (own_step (own_step (own_step (0 : Int32) x1) x2) x3) x4) x5).toUInt32 >>> ((x6 &&& (3 : Int32)) &&& 31).toUInt32).toInt32) &&& (1 : Int32)) = (0 : Int32) then (0 : Int32) else (1 : Int32)))] [(.int (1 : Int32))]))
    refine Go.retN X9 hx hlk (t := .boolean) hret (by simp) (hb hby at_104) rfl (by decide) (by decide) ?_
    rw [e9]
    exact ⟨rfl, N9⟩
  by_cases c77 : ((((own_step (own_step (own_step (own_step (own_step (0 : Int32) x1) x2) x3) x4) x5).toUInt32 >>> ((x6 &&& (3 : Int32)) &&& 31).toUInt32).toInt32) &&& (1 : Int32)) = (0 : Int32)
  · refine Go.of (fun _ q => XS.ifYes X7.here hx rfl (pc0 := 77) (pc' := 84) rfl (hb hby at_77) rfl ((if0 _ _).trans (teq c77).1) (by decide) (by decide) q) ?_
    show Go _ _ _ _ _ _ _ (T7.setTop (mkF m 84 #[.val (.int x1), .val (.int x2), .val (.int x3), .val (.int x4), .val (.int x5), .val (.int x6), .val (.ref b1), .val (.int (own_step (own_step (own_step (own_step (own_step (0 : Int32) x1) x2) x3) x4) x5)), .val (.int (x6 &&& (3 : Int32))), .unset] []))
    refine Go.of (fun _ q => XS.iconst X7.here hx rfl (hb hby at_84) q) ?_
    show Go _ _ _ _ _ _ _ (T7.setTop (mkF m 85 #[.val (.int x1), .val (.int x2), .val (.int x3), .val (.int x4), .val (.int x5), .val (.int x6), .val (.ref b1), .val (.int (own_step (own_step (own_step (own_step (own_step (0 : Int32) x1) x2) x3) x4) x5)), .val (.int (x6 &&& (3 : Int32))), .unset] [(.int (0 : Int32))]))
    exact J8 _ (by rw [if_pos c77])
  · refine Go.of (fun _ q => XS.ifNo X7.here hx rfl (hb hby at_77) rfl ((if0 _ _).trans (feq c77).1) q) ?_
    show Go _ _ _ _ _ _ _ (T7.setTop (mkF m 80 #[.val (.int x1), .val (.int x2), .val (.int x3), .val (.int x4), .val (.int x5), .val (.int x6), .val (.ref b1), .val (.int (own_step (own_step (own_step (own_step (own_step (0 : Int32) x1) x2) x3) x4) x5)), .val (.int (x6 &&& (3 : Int32))), .unset] []))
    refine Go.of (fun _ q => XS.iconst X7.here hx rfl (hb hby at_80) q) ?_
    show Go _ _ _ _ _ _ _ (T7.setTop (mkF m 81 #[.val (.int x1), .val (.int x2), .val (.int x3), .val (.int x4), .val (.int x5), .val (.int x6), .val (.ref b1), .val (.int (own_step (own_step (own_step (own_step (own_step (0 : Int32) x1) x2) x3) x4) x5)), .val (.int (x6 &&& (3 : Int32))), .unset] [(.int (1 : Int32))]))
    refine Go.of (fun _ q => XS.goto X7.here hx rfl (pc0 := 81) (pc' := 85) rfl (hb hby at_81) (by decide) (by decide) q) ?_
    show Go _ _ _ _ _ _ _ (T7.setTop (mkF m 85 #[.val (.int x1), .val (.int x2), .val (.int x3), .val (.int x4), .val (.int x5), .val (.int x6), .val (.ref b1), .val (.int (own_step (own_step (own_step (own_step (own_step (0 : Int32) x1) x2) x3) x4) x5)), .val (.int (x6 &&& (3 : Int32))), .unset] [(.int (1 : Int32))]))
    exact J8 _ (by rw [if_neg c77])
set_option maxRecDepth 65536 in
set_option maxHeartbeats 40000000 in
theorem comes_1 {Post : Tables → Env → Array Value → State → Outcome → State → Prop} (hpost : ∀ tb e args s v u, (limb_1_1.after args s (.returned v) u = true ∧ limb_1_2.after args s (.returned v) u = true ∧ True) → FrameEnd s (.returned v) u (Jvm.fieldLocs frame_1_writes args s ++ Jvm.arrayLocs frame_1_arrays args s ++ Jvm.staticLocs frame_1_statics s) 16 128 → Post tb e args s (.returned v) u) :
    ArmFor flags0 classFile x code maxLocals ret World_1 tables_1 room_1 Calls_1 rest_1 Pre_1 Post := by
  intro l hfl _ _ p e ha hc hk s m args below hf hA hF happ hP
  obtain ⟨hcalls, hrest, hpre⟩ := hP
  obtain ⟨-, -, -, hnamed, -, -, -, hat⟩ := (Spec.applies_iff hf).mp happ
  obtain ⟨hg, hn⟩ := and_e (Cond.before_iff.mp (show (Jvm.Cond.and given_1 narrow_1).before args s = true from hpre))
  obtain ⟨g1, g2⟩ := and_e hg
  obtain ⟨g3, g4⟩ := and_e g2
  obtain ⟨g5, g6⟩ := and_e g4
  obtain ⟨g7, g8⟩ := and_e g6
  obtain ⟨g9, g10⟩ := and_e g8
  obtain ⟨g11, g12⟩ := and_e g10
  obtain ⟨w0, w1, w2, w3, w4, w5, rfl⟩ : ∃ w0 w1 w2 w3 w4 w5 : Value, args = #[w0, w1, w2, w3, w4, w5] := by
    have hs : args.size = 6 := by simpa [Cond.value, given_1] using g1
    obtain ⟨L⟩ := args
    match L, hs with
    | [w0, w1, w2, w3, w4, w5], _ => exact ⟨w0, w1, w2, w3, w4, w5, rfl⟩
  have hw := fun d (hd : d ∈ tables_1) => atoms_spec (ws := Jvm.Cond.code x code maxLocals ret :: tables_1) hat d (List.mem_cons_of_mem _ hd)
  have hfit : Fit s := fun {y c} hc i hi => by
    obtain ⟨ha, rfl⟩ := Array.getElem?_eq_some_iff.mp hc
    have q := List.all_eq_true.mp ((Array.all_eq_true_iff_forall_mem.mp hF) _ (Array.getElem_mem ha)) i (List.mem_range.mpr hi)
    simpa [Array.getElem?_eq_getElem hi] using q
  obtain ⟨i0, ei0⟩ := is_v g3
  obtain rfl : w0 = (.int i0) := Option.some.inj ei0
  obtain ⟨i1, ei1⟩ := is_v g5
  obtain rfl : w1 = (.int i1) := Option.some.inj ei1
  obtain ⟨i2, ei2⟩ := is_v g7
  obtain rfl : w2 = (.int i2) := Option.some.inj ei2
  obtain ⟨i3, ei3⟩ := is_v g9
  obtain rfl : w3 = (.int i3) := Option.some.inj ei3
  obtain ⟨i4, ei4⟩ := is_v g11
  obtain rfl : w4 = (.int i4) := Option.some.inj ei4
  obtain ⟨i5, ei5⟩ := is_v g12
  obtain rfl : w5 = (.int i5) := Option.some.inj ei5
  obtain ⟨n, o, h1, h2, h3, _, L, rfl, ⟨rfl, N⟩, hq⟩ := rm0 l s _ hw i0 i1 i2 i3 i4 i5 s.heap s.heap.size (Nat.le_refl _)  tables_1 p e ha hc hk s m _ below hf ((Spec.applies_iff_loose hf).mp happ).1 ⟨rfl, State.Warmed39.refl s, rfl⟩ trivial
  refine ⟨n, _, h1, h2, h3, hpost _ _ _ _ _ _ ⟨Cond.after_iff.mpr rfl, Cond.after_iff.mpr (eq_i res_at (Term.int_eval (1)) rfl), trivial⟩ ⟨hq.1, hq.2.1, (hq.2.2.sift fun y hy => Or.inr (N y hy)).mono (by decide) (by decide)⟩⟩
theorem main_1_1 : Claimed_1_1 := comes_1 fun _ _ _ _ _ _ h hF => ⟨h.1, hF⟩
theorem main_1_2 : Claimed_1_2 := comes_1 fun _ _ _ _ _ _ h hF => ⟨h.2.1, hF⟩
end Jvm.Pilot.@@N@@
namespace Jvm.Pilot.@@N@@
open Jvm Jvm.ClassFile Sem Op Lib Jvm.Free Jvm.Stand Jvm.Pilot.@@N@@.Jvm.D
/-! MADE BY PROGRAM (witnessworld.py) out of the Statement's table words and the real class files: 9 classes; the members and pool entries that the words name. The judged class is class 1, her method 2. -/
namespace start1
open Jvm.ClassFile
def u (s : String) : CpInfo := .utf8 (stringToUtf16 s)
/-- a pool by its gaps: so many unusable entries, then the entry; so many at the end -/
def gap : Nat → List CpInfo → List CpInfo
  | 0, r => r
  | n + 1, r => .unusable :: gap n r
def poolList (es : List (Nat × CpInfo)) (last : Nat) : List CpInfo := es.foldr (fun e r => gap e.1 (e.2 :: r)) (gap last [])
def pool (es : List (Nat × CpInfo)) (last : Nat) : Array CpInfo := ⟨poolList es last⟩
def fileOf (pool : Array CpInfo) (this : Nat) (attrs : Array Attribute := #[]) (ms : Array MethodInfo := #[]) (fl : Nat := 33) (sup : Nat := 0) (ifs : Array Nat := #[]) (fds : Array FieldInfo := #[]) : ClassFile where
  minorVersion := 0
  majorVersion := 65
  constantPool := pool
  accessFlags := fl
  thisClass := this
  superClass := sup
  interfaces := ifs
  fields := fds
  methods := ms
  attributes := attrs
def plain (name : String) (sup : Option ClassId) : Class where
  name := name
  kind := .ordinary
  loader := none
  accessFlags := 33
  super := sup
  interfaces := #[]
  cf := none
  fields := #[]
  methods := #[]
  instanceTypes := #[]
  staticTypes := #[]
  resolved := #[]
  callSites := []
  init := .initialized
  statics := none
  mirror := none

def pool0 : Array CpInfo := pool [(5, u "<init>"), (0, u "()V"), (1, .class_ 10), (1, u "java/lang/Object")] 113

def k0c0 : Code := { maxStack := 0, maxLocals := 1, code := object_method_1_code, exceptionTable := #[], attributes := #[] }
def k0m0 : Method := { name := "<init>", desc := "()V", sig := { parameters := [], returnType := none }, accessFlags := 1, code := some k0c0 }
/-- java/lang/Object -/
def k0 : Class := { plain "java/lang/Object" none with
  accessFlags := 33
  interfaces := #[]
  cf := some (fileOf pool0 8 #[] #[{ accessFlags := 1, nameIndex := 5, descriptorIndex := 6, attributes := #[] }] 33 0 #[] #[])
  fields := #[]
  methods := #[k0m0]
  instanceTypes := #[]
  staticTypes := #[]
  resolved := Array.replicate 124 none
  statics := none }

def pool1 : Array CpInfo := pool [(2, .class_ 4), (1, u "java/lang/Object"), (0, u "<init>"), (0, u "()V"), (0, .methodref 8 9), (0, .class_ 10), (0, .nameAndType 11 6), (0, u "com/example/quillon/quillon/ir/TemporarySet"), (0, u "clear"), (0, .methodref 8 13), (0, .nameAndType 14 15), (0, u "remove"), (0, u "(I)V"), (0, .methodref 8 17), (0, .nameAndType 18 15), (0, u "add"), (0, .methodref 8 20), (0, .nameAndType 5 15), (0, .methodref 22 23), (0, .class_ 24), (0, .nameAndType 25 26), (0, u "com/example/quillon/quillon/ir/TemporarySetContainsPinLaw"), (0, u "step"), (0, u "(Lcom/example/quillon/quillon/ir/TemporarySet;II)I"), (0, .methodref 8 28), (0, .nameAndType 29 30), (0, u "contains"), (0, u "(I)Z"), (3, u "law"), (0, u "(IIIIII)Z")] 2

def k1m0 : Method := { name := "<init>", desc := "()V", sig := { parameters := [], returnType := none }, accessFlags := 1, code := none }
def k1c1 : Code := { maxStack := 3, maxLocals := 5, code := method_2_code, exceptionTable := #[], attributes := #[] }
def k1m1 : Method := { name := "step", desc := "(Lcom/example/quillon/quillon/ir/TemporarySet;II)I", sig := { parameters := [(.object "com/example/quillon/quillon/ir/TemporarySet"), .int, .int], returnType := some .int }, accessFlags := 10, code := some k1c1 }
def k1c2 : Code := { maxStack := 3, maxLocals := 10, code := code, exceptionTable := #[], attributes := #[] }
def k1m2 : Method := { name := "law", desc := "(IIIIII)Z", sig := { parameters := [.int, .int, .int, .int, .int, .int], returnType := some .boolean }, accessFlags := 9, code := some k1c2 }
/-- com/example/quillon/quillon/ir/TemporarySetContainsPinLaw -/
def k1 : Class := { plain "com/example/quillon/quillon/ir/TemporarySetContainsPinLaw" (some 0) with
  accessFlags := 49
  interfaces := #[]
  cf := some (fileOf pool1 22 #[] #[{ accessFlags := 1, nameIndex := 5, descriptorIndex := 6, attributes := #[] }, { accessFlags := 10, nameIndex := 25, descriptorIndex := 26, attributes := #[] }, { accessFlags := 9, nameIndex := 34, descriptorIndex := 35, attributes := #[] }] 49 2 #[] #[])
  fields := #[]
  methods := #[k1m0, k1m1, k1m2]
  instanceTypes := #[]
  staticTypes := #[]
  resolved := Array.replicate 38 none
  statics := none }

def pool2 : Array CpInfo := pool [(1, .methodref 2 3), (0, .class_ 4), (0, .nameAndType 5 6), (0, u "java/lang/Object"), (0, u "<init>"), (0, u "()V"), (0, .fieldref 8 9), (0, .class_ 10), (0, .nameAndType 11 12), (0, u "com/example/quillon/quillon/ir/TemporarySet"), (0, u "members"), (0, u "[I"), (0, .fieldref 8 14), (0, .nameAndType 15 12), (0, u "places"), (0, .fieldref 8 17), (0, .nameAndType 18 19), (0, u "size"), (0, u "I"), (6, .methodref 8 27), (0, .nameAndType 28 29), (0, u "contains"), (0, u "(I)Z"), (0, u "(I)V"), (6, u "add"), (0, u "remove"), (0, u "clear")] 2

def k2c0 : Code := { maxStack := 2, maxLocals := 2, code := prog_59_method_1_code, exceptionTable := #[], attributes := #[] }
def k2m0 : Method := { name := "<init>", desc := "(I)V", sig := { parameters := [.int], returnType := none }, accessFlags := 0, code := some k2c0 }
def k2c1 : Code := { maxStack := 2, maxLocals := 3, code := prog_59_method_2_code, exceptionTable := #[], attributes := #[] }
def k2m1 : Method := { name := "contains", desc := "(I)Z", sig := { parameters := [.int], returnType := some .boolean }, accessFlags := 0, code := some k2c1 }
def k2c2 : Code := { maxStack := 3, maxLocals := 2, code := prog_59_method_5_code, exceptionTable := #[], attributes := #[] }
def k2m2 : Method := { name := "add", desc := "(I)V", sig := { parameters := [.int], returnType := none }, accessFlags := 0, code := some k2c2 }
def k2c3 : Code := { maxStack := 4, maxLocals := 3, code := prog_59_method_6_code, exceptionTable := #[], attributes := #[] }
def k2m3 : Method := { name := "remove", desc := "(I)V", sig := { parameters := [.int], returnType := none }, accessFlags := 0, code := some k2c3 }
def k2c4 : Code := { maxStack := 2, maxLocals := 1, code := prog_59_method_7_code, exceptionTable := #[], attributes := #[] }
def k2m4 : Method := { name := "clear", desc := "()V", sig := { parameters := [], returnType := none }, accessFlags := 0, code := some k2c4 }
/-- com/example/quillon/quillon/ir/TemporarySet -/
def k2 : Class := { plain "com/example/quillon/quillon/ir/TemporarySet" (some 0) with
  accessFlags := 48
  interfaces := #[]
  cf := some (fileOf pool2 8 #[] #[{ accessFlags := 0, nameIndex := 5, descriptorIndex := 30, attributes := #[] }, { accessFlags := 0, nameIndex := 28, descriptorIndex := 29, attributes := #[] }, { accessFlags := 0, nameIndex := 37, descriptorIndex := 30, attributes := #[] }, { accessFlags := 0, nameIndex := 38, descriptorIndex := 30, attributes := #[] }, { accessFlags := 0, nameIndex := 39, descriptorIndex := 6, attributes := #[] }] 48 2 #[] #[{ accessFlags := 18, nameIndex := 11, descriptorIndex := 12, attributes := #[] }, { accessFlags := 18, nameIndex := 15, descriptorIndex := 12, attributes := #[] }, { accessFlags := 2, nameIndex := 18, descriptorIndex := 19, attributes := #[] }])
  fields := #[{ name := "members", type := (.array .int), accessFlags := 18, slot := 0, constantValue := 0 }, { name := "places", type := (.array .int), accessFlags := 18, slot := 1, constantValue := 0 }, { name := "size", type := .int, accessFlags := 2, slot := 2, constantValue := 0 }]
  methods := #[k2m0, k2m1, k2m2, k2m3, k2m4]
  instanceTypes := #[(.array .int), (.array .int), .int]
  staticTypes := #[]
  resolved := Array.replicate 42 none
  statics := none }

def pool3 : Array CpInfo := pool [(1, u "java/lang/Cloneable"), (0, .class_ 1), (0, u "java/lang/Object"), (0, .class_ 3)] 3

/-- java/lang/Cloneable -/
def k3 : Class := { plain "java/lang/Cloneable" (some 0) with
  accessFlags := 1537
  interfaces := #[]
  cf := some (fileOf pool3 2 #[] #[] 1537 4 #[] #[])
  fields := #[]
  methods := #[]
  instanceTypes := #[]
  staticTypes := #[]
  resolved := Array.replicate 8 none
  statics := none }

def pool4 : Array CpInfo := pool [(1, u "java/io/Serializable"), (0, .class_ 1), (0, u "java/lang/Object"), (0, .class_ 3)] 3

/-- java/io/Serializable -/
def k4 : Class := { plain "java/io/Serializable" (some 0) with
  accessFlags := 1537
  interfaces := #[]
  cf := some (fileOf pool4 2 #[] #[] 1537 4 #[] #[])
  fields := #[]
  methods := #[]
  instanceTypes := #[]
  staticTypes := #[]
  resolved := Array.replicate 8 none
  statics := none }

/-- the primitive byte -/
def k5 : Class := { plain "byte" none with kind := .primitive 'B', accessFlags := 0x411 }
/-- [B -/
def k6 : Class := { plain "[B" (some 0) with kind := .array 5 .byte, interfaces := #[3, 4], accessFlags := 1041 }

/-- the primitive int -/
def k7 : Class := { plain "int" none with kind := .primitive 'I', accessFlags := 0x411 }
/-- [I -/
def k8 : Class := { plain "[I" (some 0) with kind := .array 7 .int, interfaces := #[3, 4], accessFlags := 1041 }

def heap : Heap := #[]
def classes : Array Class := #[k0, k1, k2, k3, k4, k5, k6, k7, k8]
def interned : List (Array UInt16 × Addr) := []
def slotsUsed : Nat := 0
def theMethod : MethodId := ⟨1, 2⟩
def args0 : Array Value := #[.int 5, .int 6, .int 7, .int 8, .int 9, .int 10]
def aboutOver (below : List Frame) : State where
  vm := { classes := classes, interned := interned.toArray }
  heap := heap
  slotsUsed := slotsUsed
  threads := #[{ frames := .invoking theMethod args0 :: below }]
def below0 : List Frame := [.native { method := ⟨0, 0⟩, args := #[] }]
def about1 : State := aboutOver below0
def p0 : Program := .bare "" "" ""
def e0 : Env := launch0.env 0 0 0
theorem w_frames : about1.frames = Frame.invoking theMethod args0 :: below0 := rfl
set_option maxRecDepth 65536 in
theorem w_args : argsFit about1.vm theMethod args0 = true := by decide +kernel
set_option maxRecDepth 65536 in
theorem w_heap : heapFits about1 = true := by decide +kernel
set_option maxRecDepth 65536 in
theorem w_runnable : about1.curStatus? = some .runnable := by decide +kernel
set_option maxRecDepth 65536 in
theorem w_alone : about1.alone = true := by decide +kernel
set_option maxRecDepth 65536 in
theorem w_named : about1.methodNamed? x = some theMethod := by decide +kernel
set_option maxRecDepth 65536 in
theorem w_hears : about1.hears theMethod below0 = true := by decide +kernel
set_option maxRecDepth 65536 in
theorem w_ripe : about1.ripe theMethod args0 below0 = true := by decide +kernel
theorem w_running : about1.status = .running := rfl
set_option maxRecDepth 65536 in
theorem w_room : about1.hasRoom e0.platform room_1 = true :=
  launch0.hasRoom_least _ room_1 (by decide +kernel) (by decide +kernel) (by decide +kernel) (by decide +kernel) (by decide +kernel) (by decide +kernel)
theorem allAtoms_all (ts : List Jvm.Cond) (a : Array Jvm.Value) (st : Jvm.State) : (allAtoms ts).before a st = ts.all (fun c => c.before a st) := by
  induction ts with
  | nil => rfl
  | cons c t ih =>
    show (Jvm.Cond.and c (allAtoms t)).before a st = _
    rw [Jvm.Cond.before_and, ih, List.all_cons]
def words1 : List Jvm.Cond := Jvm.Cond.code x code maxLocals ret :: tables_1
/-- a 'code' word, met by the world's own term for the bytes: nothing is compared byte by byte -/
theorem code_word {y : MethodName} {bytes : ByteArray} {mx : Nat} {rt : Option FieldType} {a : Array Value} {s : State} {m : MethodId} {meth : Method} {c : Code} (h1 : s.methodNamed? y = some m) (h2 : s.vm.method? m = some meth) (h3 : meth.code = some c) (h4 : c.code = bytes)
    (h5 : (c.maxLocals == mx && c.exceptionTable.isEmpty && decide (c.maxStack ≤ mostOperands) && decide (meth.sig.returnType = rt) && !meth.locks && decide (parseMethodDescriptor y.desc = some meth.sig)) = true) : (Jvm.Cond.code y bytes mx rt).before a s = true := by
  simp only [Bool.and_eq_true, beq_iff_eq, Bool.not_eq_true', decide_eq_true_eq] at h5
  obtain ⟨⟨⟨⟨⟨g1, g2⟩, g3⟩, g4⟩, g5⟩, g6⟩ := h5
  simp [Cond.before, Cond.holds, Cond.value, h1, h2, h3, h4, g1, g2, g3, g4, g5, g6]
def isCode : Jvm.Cond → Bool
  | .code _ _ _ _ => true
  | _ => false
theorem all_split {L : List Jvm.Cond} {P : Jvm.Cond → Bool} (h1 : L.all (fun c => isCode c || P c) = true) (h2 : ∀ c ∈ L.filter isCode, P c = true) : L.all P = true := by
  refine List.all_eq_true.mpr fun c hc => ?_
  have h := List.all_eq_true.mp h1 c hc
  rcases Bool.eq_false_or_eq_true (isCode c) with hi | hi
  · exact h2 c (List.mem_filter.mpr ⟨hc, hi⟩)
  · simpa [hi] using h
set_option maxRecDepth 65536 in
theorem w_c0 : (Jvm.Cond.code x code maxLocals ret).before args0 about1 = true := code_word (m := ⟨1, 2⟩) (meth := k1m2) (c := k1c2) (by decide +kernel) rfl rfl rfl (by decide +kernel)
set_option maxRecDepth 65536 in
theorem w_c1 : (Jvm.Cond.code ({ cls := "com/example/quillon/quillon/ir/TemporarySet", name := "<init>", desc := "(I)V" } : Jvm.MethodName) prog_59_method_1_code (2 : Nat) (Option.none : Option Jvm.ClassFile.FieldType)).before args0 about1 = true := code_word (m := ⟨2, 0⟩) (meth := k2m0) (c := k2c0) (by decide +kernel) rfl rfl rfl (by decide +kernel)
set_option maxRecDepth 65536 in
theorem w_c2 : (Jvm.Cond.code ({ cls := "java/lang/Object", name := "<init>", desc := "()V" } : Jvm.MethodName) object_method_1_code (1 : Nat) (Option.none : Option Jvm.ClassFile.FieldType)).before args0 about1 = true := code_word (m := ⟨0, 0⟩) (meth := k0m0) (c := k0c0) (by decide +kernel) rfl rfl rfl (by decide +kernel)
set_option maxRecDepth 65536 in
theorem w_c3 : (Jvm.Cond.code ({ cls := "com/example/quillon/quillon/ir/TemporarySetContainsPinLaw", name := "step", desc := "(Lcom/example/quillon/quillon/ir/TemporarySet;II)I" } : Jvm.MethodName) method_2_code (5 : Nat) (Option.some Jvm.ClassFile.FieldType.int)).before args0 about1 = true := code_word (m := ⟨1, 1⟩) (meth := k1m1) (c := k1c1) (by decide +kernel) rfl rfl rfl (by decide +kernel)
set_option maxRecDepth 65536 in
theorem w_c4 : (Jvm.Cond.code ({ cls := "com/example/quillon/quillon/ir/TemporarySet", name := "add", desc := "(I)V" } : Jvm.MethodName) prog_59_method_5_code (2 : Nat) (Option.none : Option Jvm.ClassFile.FieldType)).before args0 about1 = true := code_word (m := ⟨2, 2⟩) (meth := k2m2) (c := k2c2) (by decide +kernel) rfl rfl rfl (by decide +kernel)
set_option maxRecDepth 65536 in
theorem w_c5 : (Jvm.Cond.code ({ cls := "com/example/quillon/quillon/ir/TemporarySet", name := "contains", desc := "(I)Z" } : Jvm.MethodName) prog_59_method_2_code (3 : Nat) (Option.some Jvm.ClassFile.FieldType.boolean)).before args0 about1 = true := code_word (m := ⟨2, 1⟩) (meth := k2m1) (c := k2c1) (by decide +kernel) rfl rfl rfl (by decide +kernel)
set_option maxRecDepth 65536 in
theorem w_c6 : (Jvm.Cond.code ({ cls := "com/example/quillon/quillon/ir/TemporarySet", name := "remove", desc := "(I)V" } : Jvm.MethodName) prog_59_method_6_code (3 : Nat) (Option.none : Option Jvm.ClassFile.FieldType)).before args0 about1 = true := code_word (m := ⟨2, 3⟩) (meth := k2m3) (c := k2c3) (by decide +kernel) rfl rfl rfl (by decide +kernel)
set_option maxRecDepth 65536 in
theorem w_c7 : (Jvm.Cond.code ({ cls := "com/example/quillon/quillon/ir/TemporarySet", name := "clear", desc := "()V" } : Jvm.MethodName) prog_59_method_7_code (1 : Nat) (Option.none : Option Jvm.ClassFile.FieldType)).before args0 about1 = true := code_word (m := ⟨2, 4⟩) (meth := k2m4) (c := k2c4) (by decide +kernel) rfl rfl rfl (by decide +kernel)
def codes1 : List Jvm.Cond := [Jvm.Cond.code x code maxLocals ret, Jvm.Cond.code ({ cls := "com/example/quillon/quillon/ir/TemporarySet", name := "<init>", desc := "(I)V" } : Jvm.MethodName) prog_59_method_1_code (2 : Nat) (Option.none : Option Jvm.ClassFile.FieldType), Jvm.Cond.code ({ cls := "java/lang/Object", name := "<init>", desc := "()V" } : Jvm.MethodName) object_method_1_code (1 : Nat) (Option.none : Option Jvm.ClassFile.FieldType), Jvm.Cond.code ({ cls := "com/example/quillon/quillon/ir/TemporarySetContainsPinLaw", name := "step", desc := "(Lcom/example/quillon/quillon/ir/TemporarySet;II)I" } : Jvm.MethodName) method_2_code (5 : Nat) (Option.some Jvm.ClassFile.FieldType.int), Jvm.Cond.code ({ cls := "com/example/quillon/quillon/ir/TemporarySet", name := "add", desc := "(I)V" } : Jvm.MethodName) prog_59_method_5_code (2 : Nat) (Option.none : Option Jvm.ClassFile.FieldType), Jvm.Cond.code ({ cls := "com/example/quillon/quillon/ir/TemporarySet", name := "contains", desc := "(I)Z" } : Jvm.MethodName) prog_59_method_2_code (3 : Nat) (Option.some Jvm.ClassFile.FieldType.boolean), Jvm.Cond.code ({ cls := "com/example/quillon/quillon/ir/TemporarySet", name := "remove", desc := "(I)V" } : Jvm.MethodName) prog_59_method_6_code (3 : Nat) (Option.none : Option Jvm.ClassFile.FieldType), Jvm.Cond.code ({ cls := "com/example/quillon/quillon/ir/TemporarySet", name := "clear", desc := "()V" } : Jvm.MethodName) prog_59_method_7_code (1 : Nat) (Option.none : Option Jvm.ClassFile.FieldType)]
set_option maxRecDepth 65536 in
theorem codes_eq : words1.filter isCode = codes1 := rfl
theorem w_codes : ∀ c ∈ words1.filter isCode, c.before args0 about1 = true := by
  rw [codes_eq]
  intro c hc
  simp only [codes1, List.mem_cons, List.not_mem_nil, or_false] at hc
  rcases hc with rfl | rfl | rfl | rfl | rfl | rfl | rfl | rfl
  · exact w_c0
  · exact w_c1
  · exact w_c2
  · exact w_c3
  · exact w_c4
  · exact w_c5
  · exact w_c6
  · exact w_c7
set_option maxRecDepth 65536 in
theorem w_t1 : (words1.take 24).all (fun c => isCode c || c.before args0 about1) = true := by decide +kernel
set_option maxRecDepth 65536 in
theorem w_t2 : (words1.drop 24).all (fun c => isCode c || c.before args0 about1) = true := by decide +kernel
theorem w_tables : (allAtoms (Jvm.Cond.code x code maxLocals ret :: tables_1)).before args0 about1 = true := by
  rw [allAtoms_all]
  show words1.all (fun c => c.before args0 about1) = true
  refine all_split ?_ w_codes
  rw [← List.take_append_drop 24 words1, List.all_append, w_t1, w_t2]
  rfl
set_option maxRecDepth 65536 in
theorem w_case : (Jvm.Cond.and given_1 narrow_1).before args0 about1 = true := by decide +kernel
theorem w_applies : (headSpec (Jvm.Cond.code x code maxLocals ret :: tables_1) room_1).applies x e0.platform about1 = true :=
  (Spec.applies_iff w_frames).mpr ⟨w_running, w_runnable, w_alone, w_named, w_hears, w_ripe, w_room, w_tables⟩
theorem atStart : AtStart classFile x code maxLocals ret World_1 tables_1 room_1 Calls_1 rest_1 Pre_1 launch0 p0 e0 about1 theMethod args0 below0 :=
  ⟨lists_1, trivial, launch0.admits_env _ _ _, launch0.least_env, fairChoices_fair.cas, fairChoices_fair.clock, w_frames, w_args, w_heap, w_applies, trivial, trivial, w_case⟩
end start1
theorem witness_1 : WitnessClaimed_1 := ⟨start1.p0, start1.e0, start1.about1, start1.theMethod, start1.args0, start1.below0, start1.atStart⟩
end Jvm.Pilot.@@N@@
