import JvmDerived
import JvmDerived.Pilot.@@N@@Statement
import JvmDerived.Pilot.@@N@@Code
set_option linter.unusedVariables false
set_option linter.unusedSimpArgs false
namespace Jvm.OwnKit
open Sem ClassFile Op Lib Jvm.Stand Jvm.Free Jvm.LawKit Jvm.RoadKit
section Kit
variable {p : Program} {l : Launch} {e : Env} {R : Room} {s : State} {m : MethodId} {args : Array Value} {below : List Frame} {meth : Method} {c : Code} {T : State} {locs : List Loc} {cells slots : Nat} {Z : State} {a0 : Array Value} {h h0 : Heap} {kc ks : Nat} {Q : Option Value → Heap → List Loc → Prop}
/-- from this state the body comes to its end, and Q holds of what it returns, of the heap there and of the places written -/
def Go (p : Program) (e : Env) (below : List Frame) (s : State) (kc ks : Nat) (Q : Option Value → Heap → List Loc → Prop) (a : State) : Prop :=
  ∃ (t : State) (o : Outcome), Steps p.tables e below a t ∧ t.status = .running ∧ Ended t below o ∧ ∃ v L, o = .returned v ∧ Q v t.heap L ∧ FrameEnd s o t L kc ks
theorem Go.of {a b : State} (st : ∀ t, Steps p.tables e below b t → Steps p.tables e below a t) (k : Go p e below s kc ks Q b) : Go p e below s kc ks Q a := by
  obtain ⟨t, o, h, r⟩ := k
  exact ⟨t, o, st t h, r⟩
theorem pad (X : Stand p l e R s m args below meth c T locs cells slots) {cells' slots' : Nat} (hc : cells ≤ cells') (hs : slots ≤ slots') : Stand p l e R s m args below meth c T locs cells' slots' :=
  ⟨X.admits, X.cas, X.clock, X.frames, X.room, X.hears, X.method, X.code, X.here, X.tail, X.warmed, X.limits, X.bytes, X.same.mono hc hs⟩
theorem Go.leave (X : Stand p l e R s m args below meth c T locs cells slots) (hlk : meth.locks = false) {v : Option Value} (hv : meth.sig.returnType = none → v = none) {g : JFrame}
    (st : ∀ fs, (∀ (f : JFrame) (acts : List Action), f.method = m → f.locked = none → f.entered = [] → (doReturn e (T.setTop f) acts v).1 = T.setFrames fs) → Steps p.tables e below (T.setTop g) (T.setFrames fs))
    (hc : cells ≤ kc) (hs : slots ≤ ks) (q : Q v T.heap locs) : Go p e below s kc ks Q (T.setTop g) := by
  obtain ⟨fs, hr, hrun, hended, hW, hsame⟩ := X.leave hv hlk
  exact ⟨_, _, st fs hr, hrun, hended, v, locs, rfl, q, ⟨_, rfl⟩, hW, hsame.mono hc hs⟩
theorem Go.retI (X : Stand p l e R s m args below meth c T locs cells slots) (hx : p.tables.exec = Jvm.exec) (hlk : meth.locks = false) (hret : meth.sig.returnType = some .int) {pc : Nat} {Ls : Array Slot} {z : Int32} {rest : List Value}
    (hd : decode c.code pc = .ok (.ireturn, 1)) (hc : cells ≤ kc) (hs : slots ≤ ks) (q : Q (some (.int z)) T.heap locs) : Go p e below s kc ks Q (T.setTop (mkF m pc Ls (.int z :: rest))) :=
  Go.leave X hlk (fun h => by rw [hret] at h; cases h) (fun fs hr => retOut X hx hret rfl (Or.inl ⟨rfl, Or.inl rfl, z, rfl⟩) hd hr) hc hs q
theorem Go.retN (X : Stand p l e R s m args below meth c T locs cells slots) (hx : p.tables.exec = Jvm.exec) (hlk : meth.locks = false) {t : FieldType} (hret : meth.sig.returnType = some t) (ht : t = .boolean ∨ t = .byte ∨ t = .char ∨ t = .short) {pc : Nat} {Ls : Array Slot} {z : Int32} {rest : List Value}
    (hd : decode c.code pc = .ok (.ireturn, 1)) (hz : nar t z = z) (hc : cells ≤ kc) (hs : slots ≤ ks) (q : Q (some (.int z)) T.heap locs) : Go p e below s kc ks Q (T.setTop (mkF m pc Ls (.int z :: rest))) :=
  Go.leave X hlk (fun h => by rw [hret] at h; cases h) (fun fs hr => RoadKit.retN X hx hret ht hd (by rw [hz]; exact hr)) hc hs q
theorem Go.retJ (X : Stand p l e R s m args below meth c T locs cells slots) (hx : p.tables.exec = Jvm.exec) (hlk : meth.locks = false) (hret : meth.sig.returnType = some .long) {pc : Nat} {Ls : Array Slot} {z : Int64} {rest : List Value}
    (hd : decode c.code pc = .ok (.lreturn, 1)) (hc : cells ≤ kc) (hs : slots ≤ ks) (q : Q (some (.long z)) T.heap locs) : Go p e below s kc ks Q (T.setTop (mkF m pc Ls (.long z :: rest))) :=
  Go.leave X hlk (fun h => by rw [hret] at h; cases h) (fun fs hr => retOut X hx hret rfl (Or.inr (Or.inl ⟨rfl, rfl, z, rfl⟩)) hd hr) hc hs q
theorem Go.retA (X : Stand p l e R s m args below meth c T locs cells slots) (hx : p.tables.exec = Jvm.exec) (hlk : meth.locks = false) {t : FieldType} (hret : meth.sig.returnType = some t) (ht : t.isReference = true) {pc : Nat} {Ls : Array Slot} {z : Value} {rest : List Value} (hz : z.isRef = true)
    (hd : decode c.code pc = .ok (.areturn, 1)) (hc : cells ≤ kc) (hs : slots ≤ ks) (q : Q (some z) T.heap locs) : Go p e below s kc ks Q (T.setTop (mkF m pc Ls (z :: rest))) :=
  Go.leave X hlk (fun h => by rw [hret] at h; cases h) (fun fs hr => retOut X hx hret (by cases t <;> first | rfl | (simp [FieldType.isReference] at ht; done)) (Or.inr (Or.inr (Or.inr (Or.inr ⟨rfl, ht, hz⟩)))) hd hr) hc hs q
theorem Go.retV (X : Stand p l e R s m args below meth c T locs cells slots) (hx : p.tables.exec = Jvm.exec) (hlk : meth.locks = false) (hret : meth.sig.returnType = none) {pc : Nat} {Ls : Array Slot}
    (hd : decode c.code pc = .ok (.return_, 1)) (hc : cells ≤ kc) (hs : slots ≤ ks) (q : Q none T.heap locs) : Go p e below s kc ks Q (T.setTop (mkF m pc Ls [])) :=
  Go.leave X hlk (fun _ => rfl) (fun fs hr => X.returnOut hx hret hd hr) hc hs q
/-- a body's contract: called with these arguments over this heap it returns, and Q holds -/
def Con (l : Launch) (Z : State) (y : MethodName) (bytes : ByteArray) (maxL : Nat) (ret : Option FieldType) (rm : Room) (as' : Array Value) (h0 : Heap) (Q : Option Value → Heap → List Loc → Prop) : Prop :=
  ∀ ws : List Cond, MetFree l y (head1 (Cond.code y bytes maxL ret :: ws) rm) (fun a U => a = as' ∧ Z.Warmed39 U.vm ∧ U.heap = h0) (fun _ _ _ _ _ => True) (fun _ U o U' => ∃ v L, o = .returned v ∧ Q v U'.heap L ∧ FrameEnd U o U' L rm.cells rm.slots)
theorem Con.intro {y : MethodName} {bytes : ByteArray} {maxL : Nat} {ret : Option FieldType} {rm : Room} {as' : Array Value} {gf : MethodId → JFrame} (hpl : plainFor y = true) (hef : ∀ m, entryFrame m as' maxL = gf m)
    (body : ∀ (p : Program) (e : Env) (s : State) (m : MethodId) (below : List Frame) (meth : Method) (c : Code) (s₁ : State), p.tables.exec = Jvm.exec → c.code = bytes → c.maxLocals = maxL → Z.Warmed39 s.vm → s.vm.findClass y.cls = some m.cls → meth.name = y.name → meth.sig.returnType = ret → meth.locks = false →
      Stand p l e rm s m as' below meth c s₁ [] 0 0 → s₁.heap = h0 → Go p e below s rm.cells rm.slots Q (s₁.setTop (gf m))) : Con l Z y bytes maxL ret rm as' h0 Q := by
  intro ws
  refine MetFree.of_bodySF hpl hisR ?_
  intro p e s m args below meth c s₁ Bd hml hP hK
  obtain ⟨rfl, hZ, hh⟩ := hP
  have k := body p e s m below meth c s₁ Bd.exec Bd.bytes hml hZ (findClass_of_methodNamed Bd.named) (name_of_methodNamed Bd.named Bd.method).1 Bd.returns Bd.notSynchronized (Stand.of_body Bd) (by rw [← hh, Bd.state]; rfl)
  rw [← hef m] at k
  exact k
theorem Go.static (X : Stand p l e R s m args below meth c T locs cells slots) (hx : p.tables.exec = Jvm.exec) (hZ : Z.Warmed39 s.vm) {own : String} {index : Nat} {y : MethodName} {bytes : ByteArray} {maxL : Nat} {ret : Option FieldType} {rm : Room} {Q' : Option Value → Heap → List Loc → Prop} {argsL : List Value}
    (hown : s.vm.findClass own = some m.cls) (w1 : (Cond.methodLink own index y).before a0 Z = true) (w2 : (Cond.static y).before a0 Z = true) (w3 : (Cond.initialized y.cls).before a0 Z = true) (w4 : (Cond.code y bytes maxL ret).before a0 Z = true)
    (hy : y.cls ≠ "java/lang/invoke/MethodHandle" ∧ y.cls ≠ "java/lang/invoke/VarHandle") (W : Nat) (eT : T.heap = h) (K : Con l Z y bytes maxL ret rm argsL.toArray h Q') (hf : rm.frames + 1 ≤ R.frames) (hlo : W + (maxL + 11) + rm.locals ≤ R.locals) (hc : cells + rm.cells ≤ R.cells) (hs : slots + rm.slots ≤ R.slots)
    {g : JFrame} (hg : g.method = m) (hsize : g.locals.size = c.maxLocals) {rest : List Value} (hlen : ∀ sig, parseMethodDescriptor y.desc = some sig → argsL.length = sig.parameters.length) (hstack : g.stack = argsL.reverse ++ rest) (hW : 2 * g.monitorRoom + (rest.map fun v => v.category).sum ≤ W)
    (hd : decode c.code g.pc = .ok (.invokestatic index, 3))
    (k : ∀ (T' : State) (v : Option Value) (L : List Loc), Stand p l e R s m args below meth c T' (locs ++ L) (cells + rm.cells) (slots + rm.slots) → Q' v T'.heap L → Go p e below s kc ks Q (T'.setTop { g with pc := g.pc + 3, stack := v.toList ++ rest })) : Go p e below s kc ks Q (T.setTop g) := by
  obtain ⟨v, _, ⟨T', L', k', n'⟩, -, X', ⟨Lc, hQ, l1, l2, l3⟩, st⟩ := Jvm.LawKit.callS X hx hown (mvT hZ w1) (mvT hZ w2) (mvT hZ w3) (mvT hZ w4) hy (backOf (W := W) (K []) hZ w4 w3 hf hlo) hg hsize hlen hstack hW hd (fun _ _ => ⟨rfl, eT, hc, hs⟩)
  dsimp only [Pt.U, Pt.locs, Pt.cells, Pt.slots] at X' l1 l2 l3 st hQ
  subst l1 l2 l3
  exact Go.of st (k T' v Lc X' hQ)
theorem Go.special (X : Stand p l e R s m args below meth c T locs cells slots) (hx : p.tables.exec = Jvm.exec) (hZ : Z.Warmed39 s.vm) {own : String} {index : Nat} {y : MethodName} {bytes : ByteArray} {maxL : Nat} {rm : Room} {Q' : Option Value → Heap → List Loc → Prop} {a : Addr} {argsL : List Value} (hy1 : y.name = "<init>")
    (hown : s.vm.findClass own = some m.cls) (w1 : (Cond.methodLink own index y).before a0 Z = true) (w2 : (Cond.instanceMethod y).before a0 Z = true) (w3 : (Cond.initialized y.cls).before a0 Z = true) (w4 : (Cond.code y bytes maxL none).before a0 Z = true)
    (hy : y.cls ≠ "java/lang/invoke/MethodHandle" ∧ y.cls ≠ "java/lang/invoke/VarHandle") (W : Nat) (eT : T.heap = h) (K : Con l Z y bytes maxL none rm (Value.ref a :: argsL).toArray h Q') (hf : rm.frames + 1 ≤ R.frames) (hlo : W + (maxL + 11) + rm.locals ≤ R.locals) (hc : cells + rm.cells ≤ R.cells) (hs : slots + rm.slots ≤ R.slots)
    {g : JFrame} (hg : g.method = m) (hsize : g.locals.size = c.maxLocals) {rest : List Value} (hlen : ∀ sig, parseMethodDescriptor y.desc = some sig → argsL.length = sig.parameters.length) (hstack : g.stack = argsL.reverse ++ .ref a :: rest) (hW : 2 * g.monitorRoom + (rest.map fun v => v.category).sum ≤ W)
    (hd : decode c.code g.pc = .ok (.invokespecial index, 3))
    (k : ∀ (T' : State) (v : Option Value) (L : List Loc), Stand p l e R s m args below meth c T' (locs ++ L) (cells + rm.cells) (slots + rm.slots) → Q' v T'.heap L → Go p e below s kc ks Q (T'.setTop { g with pc := g.pc + 3, stack := v.toList ++ rest })) : Go p e below s kc ks Q (T.setTop g) := by
  obtain ⟨v, _, ⟨T', L', k', n'⟩, -, X', ⟨Lc, hQ, l1, l2, l3⟩, st⟩ := X.specialBack hx hy1 hown (mvT hZ w1) (mvT hZ w2) (mvT hZ w4) hy (backOf (W := W) (K []) hZ w4 w3 hf hlo) hg hsize (Steps.refl _) hlen hstack hW hd (fun _ _ => ⟨rfl, eT, hc, hs⟩)
  dsimp only [Pt.U, Pt.locs, Pt.cells, Pt.slots] at X' l1 l2 l3 st hQ
  subst l1 l2 l3
  exact Go.of (fun _ q => st.trans q) (k T' v Lc X' hQ)
theorem Go.virtual (X : Stand p l e R s m args below meth c T locs cells slots) (hx : p.tables.exec = Jvm.exec) (hZ : Z.Warmed39 s.vm) {own C : String} {index : Nat} {y z : MethodName} {bytes : ByteArray} {maxL : Nat} {ret : Option FieldType} {rm : Room} {Q' : Option Value → Heap → List Loc → Prop} {a : Addr} {argsL : List Value}
    (hown : s.vm.findClass own = some m.cls) (w1 : (Cond.methodLink own index y).before a0 Z = true) (w2 : (Cond.declares y).before a0 Z = true) (hnf : NotFace s y) (w5 : (Cond.selects C y z).before a0 Z = true) (w6 : (Cond.instanceMethod z).before a0 Z = true) (w3 : (Cond.initialized z.cls).before a0 Z = true) (w4 : (Cond.code z bytes maxL ret).before a0 Z = true)
    (hy : y.cls ≠ "java/lang/invoke/MethodHandle" ∧ y.cls ≠ "java/lang/invoke/VarHandle") (W : Nat) (eT : T.heap = h) (E : Exa Z h a C) (K : Con l Z z bytes maxL ret rm (Value.ref a :: argsL).toArray h Q') (hf : rm.frames + 1 ≤ R.frames) (hlo : W + (maxL + 11) + rm.locals ≤ R.locals) (hc : cells + rm.cells ≤ R.cells) (hs : slots + rm.slots ≤ R.slots)
    {g : JFrame} (hg : g.method = m) (hsize : g.locals.size = c.maxLocals) {rest : List Value} (hlen : ∀ sig, parseMethodDescriptor y.desc = some sig → argsL.length = sig.parameters.length) (hstack : g.stack = argsL.reverse ++ .ref a :: rest) (hW : 2 * g.monitorRoom + (rest.map fun v => v.category).sum ≤ W)
    (hd : decode c.code g.pc = .ok (.invokevirtual index, 3))
    (k : ∀ (T' : State) (v : Option Value) (L : List Loc), Stand p l e R s m args below meth c T' (locs ++ L) (cells + rm.cells) (slots + rm.slots) → Q' v T'.heap L → Go p e below s kc ks Q (T'.setTop { g with pc := g.pc + 3, stack := v.toList ++ rest })) : Go p e below s kc ks Q (T.setTop g) := by
  obtain ⟨cq, kq, qa, -, qc⟩ := isOf hZ eT E
  obtain ⟨v, _, ⟨T', L', k', n'⟩, -, X', ⟨Lc, hQ, l1, l2, l3⟩, st⟩ := X.virtualBack hx hown (mvT hZ w1) (mvT hZ w2) hnf (mvT hZ w5) (mvT hZ w6) hy (backOf (W := W) (K []) hZ w4 w3 hf hlo) qa qc hg hsize (Steps.refl _) hlen hstack hW hd (fun _ _ => ⟨rfl, eT, hc, hs⟩)
  dsimp only [Pt.U, Pt.locs, Pt.cells, Pt.slots] at X' l1 l2 l3 st hQ
  subst l1 l2 l3
  exact Go.of (fun _ q => st.trans q) (k T' v Lc X' hQ)
theorem Go.virtualUp (X : Stand p l e R s m args below meth c T locs cells slots) (hx : p.tables.exec = Jvm.exec) (hZ : Z.Warmed39 s.vm) {own C owner : String} {index : Nat} {y z : MethodName} {bytes : ByteArray} {maxL : Nat} {ret : Option FieldType} {rm : Room} {Q' : Option Value → Heap → List Loc → Prop} {a : Addr} {argsL : List Value}
    (hown : s.vm.findClass own = some m.cls) (w1 : (Cond.methodLink own index y).before a0 Z = true) (w2 : (Cond.sameMethod y.cls owner y.name y.desc).before a0 Z = true) (w7 : (Cond.declares ⟨owner, y.name, y.desc⟩).before a0 Z = true) (w5 : (Cond.selects C y z).before a0 Z = true) (w6 : (Cond.instanceMethod z).before a0 Z = true) (w3 : (Cond.initialized z.cls).before a0 Z = true) (w4 : (Cond.code z bytes maxL ret).before a0 Z = true)
    (hy : owner ≠ "java/lang/invoke/MethodHandle" ∧ owner ≠ "java/lang/invoke/VarHandle") (W : Nat) (eT : T.heap = h) (E : Exa Z h a C) (K : Con l Z z bytes maxL ret rm (Value.ref a :: argsL).toArray h Q') (hf : rm.frames + 1 ≤ R.frames) (hlo : W + (maxL + 11) + rm.locals ≤ R.locals) (hc : cells + rm.cells ≤ R.cells) (hs : slots + rm.slots ≤ R.slots)
    {g : JFrame} (hg : g.method = m) (hsize : g.locals.size = c.maxLocals) {rest : List Value} (hlen : ∀ sig, parseMethodDescriptor y.desc = some sig → argsL.length = sig.parameters.length) (hstack : g.stack = argsL.reverse ++ .ref a :: rest) (hW : 2 * g.monitorRoom + (rest.map fun v => v.category).sum ≤ W)
    (hd : decode c.code g.pc = .ok (.invokevirtual index, 3))
    (k : ∀ (T' : State) (v : Option Value) (L : List Loc), Stand p l e R s m args below meth c T' (locs ++ L) (cells + rm.cells) (slots + rm.slots) → Q' v T'.heap L → Go p e below s kc ks Q (T'.setTop { g with pc := g.pc + 3, stack := v.toList ++ rest })) : Go p e below s kc ks Q (T.setTop g) := by
  obtain ⟨cq, kq, qa, -, qc⟩ := isOf hZ eT E
  obtain ⟨v, _, ⟨T', L', k', n'⟩, -, X', ⟨Lc, hQ, l1, l2, l3⟩, st⟩ := X.virtualBackUp hx hown (mvT hZ w1) (mvT hZ w2) (mvT hZ w7) hy (mvT hZ w5) (mvT hZ w6) (backOf (W := W) (K []) hZ w4 w3 hf hlo) qa qc hg hsize (Steps.refl _) hlen hstack hW hd (fun _ _ => ⟨rfl, eT, hc, hs⟩)
  dsimp only [Pt.U, Pt.locs, Pt.cells, Pt.slots] at X' l1 l2 l3 st hQ
  subst l1 l2 l3
  exact Go.of (fun _ q => st.trans q) (k T' v Lc X' hQ)
/-- a cast of what may be null -/
theorem castV (X : Stand p l e R s m args below meth c T locs cells slots) (hx : p.tables.exec = Jvm.exec) (hZ : Z.Warmed39 s.vm) {own K : String} {index : Nat} (hown : s.vm.findClass own = some m.cls) (w : (Cond.classLink own index K).before a0 Z = true) (eT : T.heap = h) {v : Value} (F : v = .null ∨ ∃ a, v = .ref a ∧ Ins Z h a K true)
    {g : JFrame} (hg : g.method = m) {rest : List Value} (hs : g.stack = v :: rest) (hd : decode c.code g.pc = .ok (.checkcast index, 3)) : ∃ T', Stand p l e R s m args below meth c T' locs cells slots ∧ T'.heap = h ∧ ∀ target, Steps p.tables e below (T'.setTop { g with pc := g.pc + 3 }) target → Steps p.tables e below (T.setTop g) target := by
  rcases F with rfl | ⟨a, rfl, I⟩
  · exact ⟨T, X, eT, fun target q => X.checkcastNull hx hg hs hd target q⟩
  · exact castY X hx hZ hown w eT I hg hs hd
end Kit
end Jvm.OwnKit
namespace Jvm.OwnKit
open Sem ClassFile Op Lib Jvm.Stand Jvm.Free Jvm.LawKit Jvm.RoadKit
section Arrays
variable {p : Program} {l : Launch} {e : Env} {R : Room} {s : State} {m : MethodId} {args : Array Value} {below : List Frame} {meth : Method} {c : Code} {T : State} {locs : List Loc} {cells slots : Nat} {Z : State} {a0 : Array Value} {h h' : Heap} {a b : Addr} {k : ClassId} {ty : FieldType} {n i : Nat} {f : Nat → Value} {sl : Nat} {v w : Value} {ws : List Addr} {j : Int32}
/-- the array at a: its class, its kind, its length, what it holds -/
def AF (Z : State) (h : Heap) (a : Addr) (k : ClassId) (ty : FieldType) (n : Nat) (f : Nat → Value) : Prop :=
  ∃ c : Cell, Arr Z h a c ty ∧ c.cls = k ∧ c.slots.size = n ∧ n < 2 ^ 31 ∧ ∀ i, i < n → c.slots[i]? = some (f i)
def updV (f : Nat → Value) (i : Nat) (v : Value) : Nat → Value := fun k => if k = i then v else f k
def upI (f : Nat → Int32) (i : Nat) (v : Int32) : Nat → Int32 := fun k => if k = i then v else f k
/-- the index j is the place i of an array of n -/
def Ix (j : Int32) (i n : Nat) : Prop := j.toNatClampNeg = i ∧ ¬ j < 0 ∧ i < n
theorem Ix.not_out {c : Cell} (q : Ix j i n) (S : c.slots.size = n) : ¬ (j < 0 ∨ c.slots.size ≤ j.toNatClampNeg) := by
  obtain ⟨q1, q2, q3⟩ := q
  rintro (r | r)
  · exact q2 r
  · rw [q1, S] at r; exact absurd q3 (Nat.not_lt.mpr r)
theorem AF.new {z : Int32} {d : Value} (A : Arr Z h a (newA k ty z) ty) (q : ¬ z < 0) (e : z.toNatClampNeg = n) (hd : defaultValue ty = d) : AF Z h a k ty n (fun _ => d) :=
  ⟨_, A, rfl, by rw [sz_new, e], by rw [← e]; exact (back32 q).2, fun i hi => by simp [newA, e, hi, hd]⟩
theorem AF.lt (F : AF Z h a k ty n f) : a < h.size := by obtain ⟨c, A, -⟩ := F; exact A.lt
theorem AF.ext (F : AF Z h a k ty n f) (E : Ext h h') : AF Z h' a k ty n f := by obtain ⟨c, A, r⟩ := F; exact ⟨c, A.ext E, r⟩
theorem AF.other (F : AF Z h b k ty n f) (W : Wr h h' a sl v) (q : b ≠ a) : AF Z h' b k ty n f := by obtain ⟨c, A, r⟩ := F; exact ⟨c, A.other W q, r⟩
theorem AF.keep (F : AF Z h a k ty n f) (K : Keep h h' ws) (q : a ∉ ws) : AF Z h' a k ty n f := by obtain ⟨c, A, r⟩ := F; exact ⟨c, ⟨K.2.1 a c A.1 q, A.2⟩, r⟩
theorem AF.cast {g : Nat → Value} (F : AF Z h a k ty n f) (q : ∀ i, i < n → f i = g i) : AF Z h a k ty n g := by obtain ⟨c, A, r1, r2, r3, H⟩ := F; exact ⟨c, A, r1, r2, r3, fun i hi => by rw [H i hi, q i hi]⟩
theorem AF.set (F : AF Z h a k ty n f) (W : Wr h h' a j.toNatClampNeg v) (q : Ix j i n) : AF Z h' a k ty n (updV f i v) := by
  obtain ⟨c, A, r1, r2, r3, H⟩ := F
  refine ⟨_, Arr.same W A, r1, by rw [sz_set]; exact r2, r3, fun x hx => ?_⟩
  rw [q.1]
  by_cases e : x = i
  · subst e
    simp [Cell.setSlot, updV, r2, hx]
  · have : (c.setSlot i v).slots[x]? = c.slots[x]? := Array.getElem?_setIfInBounds_ne (Ne.symm e)
    rw [this, H x hx]; simp [updV, e]
theorem AF.toI {g : Nat → Int32} {x : Int32} (F : AF Z h a k ty n (updV (fun i => .int (g i)) i (.int x))) : AF Z h a k ty n (fun j => .int ((upI g i x) j)) := F.cast fun j _ => by simp only [updV, upI]; split <;> rfl
theorem AF.length (F : AF Z h a k ty n f) (X : Stand p l e R s m args below meth c T locs cells slots) (hx : p.tables.exec = Jvm.exec) (hZ : Z.Warmed39 s.vm) (eT : T.heap = h) {z : Int32} (hz : n.toInt32 = z) {g : JFrame} (hg : g.method = m) {rest : List Value} (hs : g.stack = .ref a :: rest) (hd : decode c.code g.pc = .ok (.arraylength, 1)) {target : State}
    (q : Steps p.tables e below (T.setTop { g with pc := g.pc + 1, stack := .int z :: rest }) target) : Steps p.tables e below (T.setTop g) target := by
  obtain ⟨cl, A, r1, r2, r3, H⟩ := F
  refine X.arraylength hx (by rw [eT]; exact A.1) (State.isArrayOf_alike hZ.alike A.2.1) hg hs hd _ ?_
  rw [r2, hz]
  exact q
theorem AF.iaload (F : AF Z h a k .int n f) (X : Stand p l e R s m args below meth c T locs cells slots) (hx : p.tables.exec = Jvm.exec) (hZ : Z.Warmed39 s.vm) (eT : T.heap = h) (hi : Ix j i n) (hv : f i = v) {g : JFrame} (hg : g.method = m) {rest : List Value} (hs : g.stack = .int j :: .ref a :: rest) (hd : decode c.code g.pc = .ok (.iaload, 1)) {target : State}
    (q : Steps p.tables e below (T.setTop { g with pc := g.pc + 1, stack := v :: rest }) target) : Steps p.tables e below (T.setTop g) target := by
  obtain ⟨cl, A, r1, r2, r3, H⟩ := F
  exact X.iaload hx (by rw [eT]; exact A.1) (State.isArrayOf_alike hZ.alike A.2.1) A.2.2 (hi.not_out r2) (by rw [hi.1, H i hi.2.2, hv]) hg hs hd _ q
theorem AF.caload (F : AF Z h a k .char n f) (X : Stand p l e R s m args below meth c T locs cells slots) (hx : p.tables.exec = Jvm.exec) (hZ : Z.Warmed39 s.vm) (eT : T.heap = h) (hi : Ix j i n) (hv : f i = v) {g : JFrame} (hg : g.method = m) {rest : List Value} (hs : g.stack = .int j :: .ref a :: rest) (hd : decode c.code g.pc = .ok (.caload, 1)) {target : State}
    (q : Steps p.tables e below (T.setTop { g with pc := g.pc + 1, stack := v :: rest }) target) : Steps p.tables e below (T.setTop g) target := by
  obtain ⟨cl, A, r1, r2, r3, H⟩ := F
  exact X.caload hx (by rw [eT]; exact A.1) (State.isArrayOf_alike hZ.alike A.2.1) A.2.2 (hi.not_out r2) (by rw [hi.1, H i hi.2.2, hv]) hg hs hd _ q
theorem AF.baload (F : AF Z h a k .byte n f) (X : Stand p l e R s m args below meth c T locs cells slots) (hx : p.tables.exec = Jvm.exec) (hZ : Z.Warmed39 s.vm) (eT : T.heap = h) (hi : Ix j i n) (hv : f i = v) {g : JFrame} (hg : g.method = m) {rest : List Value} (hs : g.stack = .int j :: .ref a :: rest) (hd : decode c.code g.pc = .ok (.baload, 1)) {target : State}
    (q : Steps p.tables e below (T.setTop { g with pc := g.pc + 1, stack := v :: rest }) target) : Steps p.tables e below (T.setTop g) target := by
  obtain ⟨cl, A, r1, r2, r3, H⟩ := F
  exact X.baloadBytes hx (by rw [eT]; exact A.1) (State.isArrayOf_alike hZ.alike A.2.1) A.2.2 (hi.not_out r2) (by rw [hi.1, H i hi.2.2, hv]) hg hs hd _ q
theorem AF.aaload (F : AF Z h a k ty n f) (hty : ty.isReference = true) (X : Stand p l e R s m args below meth c T locs cells slots) (hx : p.tables.exec = Jvm.exec) (hZ : Z.Warmed39 s.vm) (eT : T.heap = h) (hi : Ix j i n) (hv : f i = v) {g : JFrame} (hg : g.method = m) {rest : List Value} (hs : g.stack = .int j :: .ref a :: rest) (hd : decode c.code g.pc = .ok (.aaload, 1)) {target : State}
    (q : Steps p.tables e below (T.setTop { g with pc := g.pc + 1, stack := v :: rest }) target) : Steps p.tables e below (T.setTop g) target := by
  obtain ⟨cl, A, r1, r2, r3, H⟩ := F
  exact X.aaload hx (by rw [eT]; exact A.1) (State.isArrayOf_alike hZ.alike A.2.1) hty A.2.2 (hi.not_out r2) (by rw [hi.1, H i hi.2.2, hv]) hg hs hd _ q
theorem AF.iastore (F : AF Z h a k .int n f) (X : Stand p l e R s m args below meth c T locs cells slots) (hx : p.tables.exec = Jvm.exec) (hZ : Z.Warmed39 s.vm) (eT : T.heap = h) (hi : Ix j i n) {x : Int32} {g : JFrame} (hg : g.method = m) {rest : List Value} (hs : g.stack = .int x :: .int j :: .ref a :: rest) (hd : decode c.code g.pc = .ok (.iastore, 1)) :
    ∃ T' h', Stand p l e R s m args below meth c T' (locs ++ [⟨a, j.toNatClampNeg⟩]) cells slots ∧ T'.heap = h' ∧ Wr h h' a j.toNatClampNeg (.int x) ∧ AF Z h' a k .int n (updV f i (.int x)) ∧ ∀ target, Steps p.tables e below (T'.setTop { g with pc := g.pc + 1, stack := rest }) target → Steps p.tables e below (T.setTop g) target := by
  have F0 := F
  obtain ⟨cl, A, r1, r2, r3, H⟩ := F
  obtain ⟨T', h', X', e', W', st'⟩ := stI X hx hZ eT A (hi.not_out r2) hg hs hd
  exact ⟨T', h', X', e', W', F0.set W' hi, st'⟩
theorem AF.castore (F : AF Z h a k .char n f) (X : Stand p l e R s m args below meth c T locs cells slots) (hx : p.tables.exec = Jvm.exec) (hZ : Z.Warmed39 s.vm) (eT : T.heap = h) (hi : Ix j i n) {x : Int32} {g : JFrame} (hg : g.method = m) {rest : List Value} (hs : g.stack = .int x :: .int j :: .ref a :: rest) (hd : decode c.code g.pc = .ok (.castore, 1)) :
    ∃ T' h', Stand p l e R s m args below meth c T' (locs ++ [⟨a, j.toNatClampNeg⟩]) cells slots ∧ T'.heap = h' ∧ Wr h h' a j.toNatClampNeg (.int (nar .char x)) ∧ AF Z h' a k .char n (updV f i (.int (nar .char x))) ∧ ∀ target, Steps p.tables e below (T'.setTop { g with pc := g.pc + 1, stack := rest }) target → Steps p.tables e below (T.setTop g) target := by
  have F0 := F
  obtain ⟨cl, A, r1, r2, r3, H⟩ := F
  obtain ⟨T', h', X', e', W', st'⟩ := stC X hx hZ eT A (hi.not_out r2) hg hs hd
  exact ⟨T', h', X', e', W', F0.set W' hi, st'⟩
theorem AF.bastore (F : AF Z h a k .byte n f) (X : Stand p l e R s m args below meth c T locs cells slots) (hx : p.tables.exec = Jvm.exec) (hZ : Z.Warmed39 s.vm) (eT : T.heap = h) (hi : Ix j i n) {x : Int32} {g : JFrame} (hg : g.method = m) {rest : List Value} (hs : g.stack = .int x :: .int j :: .ref a :: rest) (hd : decode c.code g.pc = .ok (.bastore, 1)) :
    ∃ T' h', Stand p l e R s m args below meth c T' (locs ++ [⟨a, j.toNatClampNeg⟩]) cells slots ∧ T'.heap = h' ∧ Wr h h' a j.toNatClampNeg (.int x.toInt8.toInt32) ∧ AF Z h' a k .byte n (updV f i (.int x.toInt8.toInt32)) ∧ ∀ target, Steps p.tables e below (T'.setTop { g with pc := g.pc + 1, stack := rest }) target → Steps p.tables e below (T.setTop g) target := by
  have F0 := F
  obtain ⟨cl, A, r1, r2, r3, H⟩ := F
  obtain ⟨T', h', X', e', W', st'⟩ := stB X hx hZ eT A (hi.not_out r2) hg hs hd
  exact ⟨T', h', X', e', W', F0.set W' hi, st'⟩
theorem AF.aastore (F : AF Z h a k ty n f) (hty : ty.isReference = true) (X : Stand p l e R s m args below meth c T locs cells slots) (hx : p.tables.exec = Jvm.exec) (hZ : Z.Warmed39 s.vm) (eT : T.heap = h) (hi : Ix j i n) (hsto : Sto Z h a v) {g : JFrame} (hg : g.method = m) {rest : List Value} (hs : g.stack = v :: .int j :: .ref a :: rest) (hd : decode c.code g.pc = .ok (.aastore, 1)) :
    ∃ T' h', Stand p l e R s m args below meth c T' (locs ++ [⟨a, j.toNatClampNeg⟩]) cells slots ∧ T'.heap = h' ∧ Wr h h' a j.toNatClampNeg v ∧ AF Z h' a k ty n (updV f i v) ∧ ∀ target, Steps p.tables e below (T'.setTop { g with pc := g.pc + 1, stack := rest }) target → Steps p.tables e below (T.setTop g) target := by
  have F0 := F
  obtain ⟨cl, A, r1, r2, r3, H⟩ := F
  obtain ⟨T', h', X', e', W', st'⟩ := stR X hx hZ eT A (hi.not_out r2) hty hsto hg hs hd
  exact ⟨T', h', X', e', W', F0.set W' hi, st'⟩
theorem AF.sto {C : String} {y : Addr} (F : AF Z h a k ty n f) (O : Ovr Z k C) (I : Ins Z h y C true) : Sto Z h a (.ref y) := by
  obtain ⟨cl, A, r1, -⟩ := F
  exact Sto.ofV A r1 O I
end Arrays
end Jvm.OwnKit
namespace Jvm.Pilot.@@N@@
open Jvm Jvm.ClassFile Sem Op Lib Jvm.Free Jvm.Stand Jvm.LawKit Jvm.RoadKit Jvm.OwnKit Bundle Jvm.Pilot.@@N@@.Jvm.D
theorem own_four (x : Int32) : (x &&& (3 : Int32)) = (0 : Int32) ∨ (x &&& (3 : Int32)) = (1 : Int32) ∨ (x &&& (3 : Int32)) = (2 : Int32) ∨ (x &&& (3 : Int32)) = (3 : Int32) := by
  have h : (x &&& (3 : Int32)).toBitVec.toNat < 4 := by
    rw [Int32.toBitVec_and, BitVec.toNat_and]
    exact Nat.lt_of_le_of_lt Nat.and_le_right (by decide)
  generalize (x &&& (3 : Int32)) = y at *
  have k : y.toBitVec.toNat = 0 ∨ y.toBitVec.toNat = 1 ∨ y.toBitVec.toNat = 2 ∨ y.toBitVec.toNat = 3 := by omega
  rcases k with k | k | k | k
  · left; exact Int32.toBitVec_inj.mp (BitVec.eq_of_toNat_eq k)
  · right; left; exact Int32.toBitVec_inj.mp (BitVec.eq_of_toNat_eq k)
  · right; right; left; exact Int32.toBitVec_inj.mp (BitVec.eq_of_toNat_eq k)
  · right; right; right; exact Int32.toBitVec_inj.mp (BitVec.eq_of_toNat_eq k)
def own_stH (c hc : Int32) (b hi : Value) : Value := if hc < c then b else hi
def own_stC (c hc : Int32) : Int32 := if hc < c then c else hc
def own_stT (c hc ti : Int32) : Int32 := if hc < c then (0 : Int32) else if c = hc then (1 : Int32) else ti
def own_w (x1 x2 x3 x4 x5 x6 : Int32) : Int32 := if x1 = (0 : Int32) then (0 : Int32) else if (0 : Int32) < x2 then (if x3 = (0 : Int32) then (if x5 = (0 : Int32) then (1 : Int32) else if x6 < x2 then (1 : Int32) else (0 : Int32)) else if x4 < x2 then (if x5 = (0 : Int32) then (1 : Int32) else if x6 < x2 then (1 : Int32) else (0 : Int32)) else (0 : Int32)) else (0 : Int32)
theorem own_w01 (x1 x2 x3 x4 x5 x6 : Int32) : nar .boolean (own_w x1 x2 x3 x4 x5 x6) = own_w x1 x2 x3 x4 x5 x6 := by
  unfold own_w
  repeat' split
  all_goals rfl
theorem own_stHr {c hc : Int32} {b hi : Value} (h1 : b.isRef = true) (h2 : hi.isRef = true) : (own_stH c hc b hi).isRef = true := by unfold own_stH; split <;> assumption
theorem own_iteR {P : Prop} [Decidable P] {hi : Value} (h : hi.isRef = true) : (if P then hi else Value.null).isRef = true := by split; exact h; rfl
def own_P (Z : State) (h : Heap) (K : String) (v : Value) : Prop := v = .null ∨ ∃ a, v = .ref a ∧ Ins Z h a K true
theorem own_stHP {Z : State} {h : Heap} {K : String} {c hc : Int32} {b hi : Value} (h1 : own_P Z h K b) (h2 : own_P Z h K hi) : own_P Z h K (own_stH c hc b hi) := by unfold own_stH; split <;> assumption
theorem own_iteP {Z : State} {h : Heap} {K : String} {P : Prop} [Decidable P] {hi : Value} (h1 : own_P Z h K hi) : own_P Z h K (if P then hi else Value.null) := by split; exact h1; exact Or.inl rfl
theorem own_six (x y : Int32) (hx : 0 ≤ x.toInt) (hy : x.toInt < 2147483640) (hz : y = (6 : Int32)) : Ix (x % y) (x % y).toNatClampNeg 6 ∧ 0 ≤ (x % y).toInt ∧ (x % y).toInt < 6 := by
  subst hz
  have e : (6 : Int32).toInt = 6 := by decide
  have q : (x % (6 : Int32)).toInt = x.toInt % 6 := by rw [Int32.toInt_mod, e, Int.tmod_eq_emod_of_nonneg hx]
  have d : (0 : Int32).toInt = 0 := by decide
  refine ⟨⟨rfl, ?_, ?_⟩, by omega, by omega⟩
  · rw [Int32.lt_iff_toInt_lt, q]; omega
  · show (x % (6 : Int32)).toInt.toNat < 6
    omega
theorem own_pick {Z : State} {h : Heap} {K : String} {o0 o1 o2 o3 o4 o5 : Addr} (E0 : Exa Z h o0 K) (E1 : Exa Z h o1 K) (E2 : Exa Z h o2 K) (E3 : Exa Z h o3 K) (E4 : Exa Z h o4 K) (E5 : Exa Z h o5 K) (i : Nat) (hi : i < 6) :
    ∃ b : Addr, updV (updV (updV (updV (updV (updV (fun _ => .null) 0 (.ref o0)) 1 (.ref o1)) 2 (.ref o2)) 3 (.ref o3)) 4 (.ref o4)) 5 (.ref o5) i = .ref b ∧ Exa Z h b K := by
  have : i = 0 ∨ i = 1 ∨ i = 2 ∨ i = 3 ∨ i = 4 ∨ i = 5 := by omega
  rcases this with rfl | rfl | rfl | rfl | rfl | rfl
  · exact ⟨o0, rfl, E0⟩
  · exact ⟨o1, rfl, E1⟩
  · exact ⟨o2, rfl, E2⟩
  · exact ⟨o3, rfl, E3⟩
  · exact ⟨o4, rfl, E4⟩
  · exact ⟨o5, rfl, E5⟩
theorem own_add (x y : Int32) (n : Int) (h : y.toInt = n) (h0 : 0 ≤ x.toInt) (h6 : x.toInt < 6) (hn : 0 ≤ n ∧ n < 3) : 0 ≤ (x + y).toInt ∧ (x + y).toInt < 2147483640 := by
  rw [Int32.toInt_add, h, Int.bmod_eq_of_le (by omega) (by omega)]; omega
theorem own_mask (x : Int32) : 0 ≤ (x &&& (2147483647 : Int32)).toInt ∧ True := ⟨(c_and x 2147483647 (by decide)).1, trivial⟩
theorem eqn_v {args : Array Value} {first s : State} {o : Option Outcome} {idx : List Nat} {t : Term} (h : (Jvm.Cond.eq t .null).value args first o s idx = some true) : t.eval args first o idx s = some .null := null_v h
theorem own_irem (x y : Int32) (hx : 0 ≤ x.toInt) (hz : y = (6 : Int32)) : Ix (x % y) (x % y).toNatClampNeg 6 ∧ 0 ≤ (x % y).toInt ∧ (x % y).toInt < 6 := by
  subst hz
  have e : (6 : Int32).toInt = 6 := by decide
  have q : (x % (6 : Int32)).toInt = x.toInt % 6 := by rw [Int32.toInt_mod, e, Int.tmod_eq_emod_of_nonneg hx]
  have d : (0 : Int32).toInt = 0 := by decide
  refine ⟨⟨rfl, ?_, ?_⟩, by omega, by omega⟩
  · rw [Int32.lt_iff_toInt_lt, q]; omega
  · show (x % (6 : Int32)).toInt.toNat < 6
    omega
theorem own_w_zero (x1 x2 x3 x4 x5 x6 : Int32) : own_w x1 x2 x3 x4 x5 x6 = (0 : Int32) ↔ ¬ (¬ x1 = (0 : Int32) ∧ (0 : Int32) < x2 ∧ (x3 = (0 : Int32) ∨ x4 < x2) ∧ (x5 = (0 : Int32) ∨ x6 < x2)) := by
  unfold own_w
  by_cases h1 : x1 = (0 : Int32) <;> by_cases h2 : (0 : Int32) < x2 <;> by_cases h3 : x3 = (0 : Int32) <;> by_cases h4 : x4 < x2 <;> by_cases h5 : x5 = (0 : Int32) <;> by_cases h6 : x6 < x2 <;> simp only [h1, h2, h3, h4, h5, h6, if_true, if_false] <;> decide
theorem own_stT_zero (c hc ti : Int32) : own_stT c hc ti = (0 : Int32) ↔ (hc < c ∨ (¬ c = hc ∧ ti = (0 : Int32))) := by
  unfold own_stT
  by_cases h1 : hc < c
  · simp [h1]
  · by_cases h2 : c = hc
    · simp only [h1, h2, if_true, if_false]; simp
    · simp [h1, h2]
theorem own_stC_toInt (c hc : Int32) : (own_stC c hc).toInt = max c.toInt hc.toInt := by
  unfold own_stC
  by_cases h : hc < c
  · rw [if_pos h]; rw [Int32.lt_iff_toInt_lt] at h; omega
  · rw [if_neg h]; rw [Int32.lt_iff_toInt_lt] at h; omega
theorem own_p0 (x1 x2 x3 : Int32) (b0 b1 b2 : Addr) : (if (0 : Int32) = (0 : Int32) then .null else Value.null) = ((if (own_w (0 : Int32) x1 (0 : Int32) x2 (0 : Int32) x3) = (0 : Int32) then (if (own_w (0 : Int32) x2 (0 : Int32) x1 (0 : Int32) x3) = (0 : Int32) then (if (own_w (0 : Int32) x3 (0 : Int32) x1 (0 : Int32) x2) = (0 : Int32) then .null else (.ref b2)) else (.ref b1)) else (.ref b0)) : Value) := by
  have e0 : (0 : Int32).toInt = 0 := by decide
  have e1 : (1 : Int32).toInt = 1 := by decide
  simp only [own_w_zero, own_stT_zero, own_stH]
  simp only [Int32.lt_iff_toInt_lt, ← Int32.toInt_inj, own_stC_toInt, e0, e1, show ((1 : Int) = 0) = False from by decide, not_true_eq_false, not_false_eq_true, false_and, true_and, and_true, and_false, true_or, or_true, false_or, or_false, if_true, if_false]
  repeat' split
  all_goals first | rfl | (exfalso; omega)
theorem own_p1 (x1 x2 x3 : Int32) (b0 b1 b2 : Addr) : (if (own_stT x1 (0 : Int32) (0 : Int32)) = (0 : Int32) then (own_stH x1 (0 : Int32) (.ref b0) .null) else Value.null) = ((if (own_w (1 : Int32) x1 (0 : Int32) x2 (0 : Int32) x3) = (0 : Int32) then (if (own_w (0 : Int32) x2 (1 : Int32) x1 (0 : Int32) x3) = (0 : Int32) then (if (own_w (0 : Int32) x3 (1 : Int32) x1 (0 : Int32) x2) = (0 : Int32) then .null else (.ref b2)) else (.ref b1)) else (.ref b0)) : Value) := by
  have e0 : (0 : Int32).toInt = 0 := by decide
  have e1 : (1 : Int32).toInt = 1 := by decide
  simp only [own_w_zero, own_stT_zero, own_stH]
  simp only [Int32.lt_iff_toInt_lt, ← Int32.toInt_inj, own_stC_toInt, e0, e1, show ((1 : Int) = 0) = False from by decide, not_true_eq_false, not_false_eq_true, false_and, true_and, and_true, and_false, true_or, or_true, false_or, or_false, if_true, if_false]
  repeat' split
  all_goals first | rfl | (exfalso; omega)
theorem own_p2 (x1 x2 x3 : Int32) (b0 b1 b2 : Addr) : (if (own_stT x2 (own_stC x1 (0 : Int32)) (own_stT x1 (0 : Int32) (0 : Int32))) = (0 : Int32) then (own_stH x2 (own_stC x1 (0 : Int32)) (.ref b1) (own_stH x1 (0 : Int32) (.ref b0) .null)) else Value.null) = ((if (own_w (1 : Int32) x1 (1 : Int32) x2 (0 : Int32) x3) = (0 : Int32) then (if (own_w (1 : Int32) x2 (1 : Int32) x1 (0 : Int32) x3) = (0 : Int32) then (if (own_w (0 : Int32) x3 (1 : Int32) x1 (1 : Int32) x2) = (0 : Int32) then .null else (.ref b2)) else (.ref b1)) else (.ref b0)) : Value) := by
  have e0 : (0 : Int32).toInt = 0 := by decide
  have e1 : (1 : Int32).toInt = 1 := by decide
  simp only [own_w_zero, own_stT_zero, own_stH]
  simp only [Int32.lt_iff_toInt_lt, ← Int32.toInt_inj, own_stC_toInt, e0, e1, show ((1 : Int) = 0) = False from by decide, not_true_eq_false, not_false_eq_true, false_and, true_and, and_true, and_false, true_or, or_true, false_or, or_false, if_true, if_false]
  repeat' split
  all_goals first | rfl | (exfalso; omega)
theorem own_p3 (x1 x2 x3 : Int32) (b0 b1 b2 : Addr) : (if (own_stT x3 (own_stC x2 (own_stC x1 (0 : Int32))) (own_stT x2 (own_stC x1 (0 : Int32)) (own_stT x1 (0 : Int32) (0 : Int32)))) = (0 : Int32) then (own_stH x3 (own_stC x2 (own_stC x1 (0 : Int32))) (.ref b2) (own_stH x2 (own_stC x1 (0 : Int32)) (.ref b1) (own_stH x1 (0 : Int32) (.ref b0) .null))) else Value.null) = ((if (own_w (1 : Int32) x1 (1 : Int32) x2 (1 : Int32) x3) = (0 : Int32) then (if (own_w (1 : Int32) x2 (1 : Int32) x1 (1 : Int32) x3) = (0 : Int32) then (if (own_w (1 : Int32) x3 (1 : Int32) x1 (1 : Int32) x2) = (0 : Int32) then .null else (.ref b2)) else (.ref b1)) else (.ref b0)) : Value) := by
  have e0 : (0 : Int32).toInt = 0 := by decide
  have e1 : (1 : Int32).toInt = 1 := by decide
  simp only [own_w_zero, own_stT_zero, own_stH]
  simp only [Int32.lt_iff_toInt_lt, ← Int32.toInt_inj, own_stC_toInt, e0, e1, show ((1 : Int) = 0) = False from by decide, not_true_eq_false, not_false_eq_true, false_and, true_and, and_true, and_false, true_or, or_true, false_or, or_false, if_true, if_false]
  repeat' split
  all_goals first | rfl | (exfalso; omega)
theorem d1_0 : decode prog_30_method_1_code 0 = .ok (.aload_n 0, 1) := by decide +kernel
theorem d1_1 : decode prog_30_method_1_code 1 = .ok (.invokespecial 1, 3) := by decide +kernel
theorem d1_4 : decode prog_30_method_1_code 4 = .ok (.return_, 1) := by decide +kernel
theorem pn0 : plainName "com/example/tundra_ascent/tundraascent/rules/StrictlyMost" = true := by first | (simp [plainName, overriddenIn]; done) | decide +kernel
theorem ef_1 (m : MethodId) (a : Addr) : entryFrame m #[(.ref a)] 1 = mkF m 0 #[.val (.ref a)] [] := by first | (simp [entryFrame, mkF, argsToLocals, Value.category]; done) | rfl
def Q1 (Z : State) (a : Addr) (h0 : Heap) (n0 : Nat) (v : Option Value) (h : Heap) (L : List Loc) : Prop := v = none ∧ Fr n0 L ∧ h = h0
set_option maxRecDepth 65536 in
set_option maxHeartbeats 40000000 in
theorem rm1 (l : Launch) (Z : State) (a0 : Array Value) (hw : ∀ d ∈ tables_1, d.before a0 Z = true) (a : Addr) (h0 : Heap) (n0 : Nat) (Zs : n0 ≤ h0.size)  :
    Con l Z (⟨"com/example/tundra_ascent/tundraascent/rules/StrictlyMost", "<init>", "()V"⟩ : MethodName) prog_30_method_1_code 1 none ({ frames := 1, cells := 0, slots := 0, locals := 12 } : Room) #[(.ref a)] h0 (Q1 Z a h0 n0) := by
  refine Con.intro (plainFor_of_name pn0) (fun m => ef_1 m a) ?_
  intro p e s m below meth c s₁ hx hby hml0 hZ hown hnm hret hlk X0 e0
  have hml : c.maxLocals = 1 := hml0
  have N0 := Fr.nil n0
  have Kp : Keep h0 h0 [] := Keep.refl h0 _
  show Go _ _ _ _ _ _ _ (s₁.setTop (mkF m 0 #[.val (.ref a)] []))
  refine Go.of (fun _ q => XS.aloadN X0.here hx rfl (hb hby d1_0) rfl rfl q) ?_
  show Go _ _ _ _ _ _ _ (s₁.setTop (mkF m 1 #[.val (.ref a)] [(.ref a)]))
  obtain ⟨T1, X1, e1, st1⟩ := initO X0 hx hZ hown (hw _ (List.mem_of_getElem? (i := 23) rfl)) (hw _ (List.mem_of_getElem? (i := 24) rfl)) (hw _ (List.mem_of_getElem? (i := 25) rfl)) e0 (g := (mkF m 1 #[.val (.ref a)] [(.ref a)])) rfl (by rw [hml]; rfl) rfl (hb hby d1_1) (by decide) (W := 0) (by show 2 * 0 + _ ≤ _; exact Nat.le_of_eq rfl) (by decide)
  refine Go.of st1 ?_
  show Go _ _ _ _ _ _ _ (T1.setTop (mkF m 4 #[.val (.ref a)] []))
  refine Go.retV X1 hx hlk hret (hb hby d1_4) (by decide) (by decide) ?_
  rw [e1]
  exact ⟨rfl, N0, rfl⟩
theorem d3_0 : decode prog_30_method_2_code 0 = .ok (.iload_n 2, 1) := by decide +kernel
theorem d3_1 : decode prog_30_method_2_code 1 = .ok (.aload_n 0, 1) := by decide +kernel
theorem d3_2 : decode prog_30_method_2_code 2 = .ok (.getfield 7, 3) := by decide +kernel
theorem d3_5 : decode prog_30_method_2_code 5 = .ok (.if_icmp .le 21, 3) := by decide +kernel
theorem d3_8 : decode prog_30_method_2_code 8 = .ok (.aload_n 0, 1) := by decide +kernel
theorem d3_9 : decode prog_30_method_2_code 9 = .ok (.aload_n 1, 1) := by decide +kernel
theorem d3_10 : decode prog_30_method_2_code 10 = .ok (.putfield 13, 3) := by decide +kernel
theorem d3_13 : decode prog_30_method_2_code 13 = .ok (.aload_n 0, 1) := by decide +kernel
theorem d3_14 : decode prog_30_method_2_code 14 = .ok (.iload_n 2, 1) := by decide +kernel
theorem d3_15 : decode prog_30_method_2_code 15 = .ok (.putfield 7, 3) := by decide +kernel
theorem d3_18 : decode prog_30_method_2_code 18 = .ok (.aload_n 0, 1) := by decide +kernel
theorem d3_19 : decode prog_30_method_2_code 19 = .ok (.iconst 0, 1) := by decide +kernel
theorem d3_20 : decode prog_30_method_2_code 20 = .ok (.putfield 17, 3) := by decide +kernel
theorem d3_23 : decode prog_30_method_2_code 23 = .ok (.goto 16, 3) := by decide +kernel
theorem d3_26 : decode prog_30_method_2_code 26 = .ok (.iload_n 2, 1) := by decide +kernel
theorem d3_27 : decode prog_30_method_2_code 27 = .ok (.aload_n 0, 1) := by decide +kernel
theorem d3_28 : decode prog_30_method_2_code 28 = .ok (.getfield 7, 3) := by decide +kernel
theorem d3_31 : decode prog_30_method_2_code 31 = .ok (.if_icmp .ne 8, 3) := by decide +kernel
theorem d3_34 : decode prog_30_method_2_code 34 = .ok (.aload_n 0, 1) := by decide +kernel
theorem d3_35 : decode prog_30_method_2_code 35 = .ok (.iconst 1, 1) := by decide +kernel
theorem d3_36 : decode prog_30_method_2_code 36 = .ok (.putfield 17, 3) := by decide +kernel
theorem d3_39 : decode prog_30_method_2_code 39 = .ok (.return_, 1) := by decide +kernel
theorem ef_3 (m : MethodId) (a : Addr) (b : Addr) (x1 : Int32) : entryFrame m #[(.ref a), (.ref b), (.int x1)] 3 = mkF m 0 #[.val (.ref a), .val (.ref b), .val (.int x1)] [] := by first | (simp [entryFrame, mkF, argsToLocals, Value.category]; done) | rfl
def Q3 (Z : State) (a : Addr) (b : Addr) (x1 : Int32) (hi : Value) (rhi : hi.isRef = true) (hc : Int32) (ti : Int32) (h0 : Heap) (n0 : Nat) (v : Option Value) (h : Heap) (L : List Loc) : Prop := v = none ∧ Fr n0 L ∧ Keep h0 h [a] ∧ Exa Z h a "com/example/tundra_ascent/tundraascent/rules/StrictlyMost" ∧ Fld Z h a "com/example/tundra_ascent/tundraascent/rules/StrictlyMost" "highest" "Lcom/example/tundra_ascent/tundraascent/rules/Animal;" (own_stH x1 hc (.ref b) hi) ∧ Fld Z h a "com/example/tundra_ascent/tundraascent/rules/StrictlyMost" "highestCount" "I" (.int (own_stC x1 hc)) ∧ Fld Z h a "com/example/tundra_ascent/tundraascent/rules/StrictlyMost" "tied" "Z" (.int (own_stT x1 hc ti))
set_option maxRecDepth 65536 in
set_option maxHeartbeats 40000000 in
theorem rm3 (l : Launch) (Z : State) (a0 : Array Value) (hw : ∀ d ∈ tables_1, d.before a0 Z = true) (a : Addr) (b : Addr) (x1 : Int32) (hi : Value) (rhi : hi.isRef = true) (hc : Int32) (ti : Int32) (h0 : Heap) (n0 : Nat) (Zs : n0 ≤ h0.size) (E_a : Exa Z h0 a "com/example/tundra_ascent/tundraascent/rules/StrictlyMost") (F_a_highest : Fld Z h0 a "com/example/tundra_ascent/tundraascent/rules/StrictlyMost" "highest" "Lcom/example/tundra_ascent/tundraascent/rules/Animal;" hi) (F_a_highestCount : Fld Z h0 a "com/example/tundra_ascent/tundraascent/rules/StrictlyMost" "highestCount" "I" (.int hc)) (F_a_tied : Fld Z h0 a "com/example/tundra_ascent/tundraascent/rules/StrictlyMost" "tied" "Z" (.int ti)) (g_a : n0 ≤ a) :
    Con l Z (⟨"com/example/tundra_ascent/tundraascent/rules/StrictlyMost", "count", "(Lcom/example/tundra_ascent/tundraascent/rules/Animal;I)V"⟩ : MethodName) prog_30_method_2_code 3 none ({ frames := 0, cells := 0, slots := 0, locals := 0 } : Room) #[(.ref a), (.ref b), (.int x1)] h0 (Q3 Z a b x1 hi rhi hc ti h0 n0) := by
  refine Con.intro (plainFor_of_name pn0) (fun m => ef_3 m a b x1) ?_
  intro p e s m below meth c s₁ hx hby hml0 hZ hown hnm hret hlk X0 e0
  have hml : c.maxLocals = 3 := hml0
  have N0 := Fr.nil n0
  have Kp : Keep h0 h0 [a] := Keep.refl h0 _
  show Go _ _ _ _ _ _ _ (s₁.setTop (mkF m 0 #[.val (.ref a), .val (.ref b), .val (.int x1)] []))
  refine Go.of (fun _ q => XS.iloadN X0.here hx rfl (hb hby d3_0) rfl q) ?_
  show Go _ _ _ _ _ _ _ (s₁.setTop (mkF m 1 #[.val (.ref a), .val (.ref b), .val (.int x1)] [(.int x1)]))
  refine Go.of (fun _ q => XS.aloadN X0.here hx rfl (hb hby d3_1) rfl rfl q) ?_
  show Go _ _ _ _ _ _ _ (s₁.setTop (mkF m 2 #[.val (.ref a), .val (.ref b), .val (.int x1)] [(.ref a), (.int x1)]))
  obtain ⟨T1, X1, e1, st1⟩ := getF X0 hx hZ hown (host := "") (Or.inl (hw _ (List.mem_of_getElem? (i := 31) rfl))) Via.refl e0 F_a_highestCount (g := (mkF m 2 #[.val (.ref a), .val (.ref b), .val (.int x1)] [(.ref a), (.int x1)])) rfl rfl (hb hby d3_2)
  refine Go.of st1 ?_
  show Go _ _ _ _ _ _ _ (T1.setTop (mkF m 5 #[.val (.ref a), .val (.ref b), .val (.int x1)] [(.int hc), (.int x1)]))
  by_cases c5 : hc < x1
  · refine Go.of (fun _ q => XS.icmpNo X1.here hx rfl (hb hby d3_5) rfl (tlt c5).2.2.2 q) ?_
    show Go _ _ _ _ _ _ _ (T1.setTop (mkF m 8 #[.val (.ref a), .val (.ref b), .val (.int x1)] []))
    refine Go.of (fun _ q => XS.aloadN X1.here hx rfl (hb hby d3_8) rfl rfl q) ?_
    show Go _ _ _ _ _ _ _ (T1.setTop (mkF m 9 #[.val (.ref a), .val (.ref b), .val (.int x1)] [(.ref a)]))
    refine Go.of (fun _ q => XS.aloadN X1.here hx rfl (hb hby d3_9) rfl rfl q) ?_
    show Go _ _ _ _ _ _ _ (T1.setTop (mkF m 10 #[.val (.ref a), .val (.ref b), .val (.int x1)] [(.ref b), (.ref a)]))
    obtain ⟨T2, h2, X2, e2, W2, st2⟩ := putF X1 hx hZ hown (host := "") (Or.inl (hw _ (List.mem_of_getElem? (i := 56) rfl))) Via.refl e1 F_a_highest E_a (Or.inl (hw _ (List.mem_of_getElem? (i := 57) rfl))) (hw _ (List.mem_of_getElem? (i := 18) rfl)) (ty := (.object "com/example/tundra_ascent/tundraascent/rules/Animal")) (by decide) rfl rfl (g := (mkF m 10 #[.val (.ref a), .val (.ref b), .val (.int x1)] [(.ref b), (.ref a)])) rfl rfl (hb hby d3_10)
    refine Go.of st2 ?_
    have Zs := Nat.le_trans Zs (Nat.le_of_eq W2.size.symm)
    have Kp := Kp.wr W2 (Or.inl (List.mem_of_getElem? (i := 0) rfl))
    have E_a := E_a.wr W2
    have F_a_highest := F_a_highest.same W2
    have F_a_highestCount := F_a_highestCount.other W2 (Or.inr (slot_ne (Or.inl (hw _ (List.mem_of_getElem? (i := 32) rfl))) (Or.inl (hw _ (List.mem_of_getElem? (i := 57) rfl))) (by decide) (t := .int) (t' := (.object "com/example/tundra_ascent/tundraascent/rules/Animal")) (by decide) (by decide)))
    have F_a_tied := F_a_tied.other W2 (Or.inr (slot_ne (Or.inl (hw _ (List.mem_of_getElem? (i := 34) rfl))) (Or.inl (hw _ (List.mem_of_getElem? (i := 57) rfl))) (by decide) (t := .boolean) (t' := (.object "com/example/tundra_ascent/tundraascent/rules/Animal")) (by decide) (by decide)))
    have N2 := Fr.snoc X2 N0 g_a
    show Go _ _ _ _ _ _ _ (T2.setTop (mkF m 13 #[.val (.ref a), .val (.ref b), .val (.int x1)] []))
    refine Go.of (fun _ q => XS.aloadN X2.here hx rfl (hb hby d3_13) rfl rfl q) ?_
    show Go _ _ _ _ _ _ _ (T2.setTop (mkF m 14 #[.val (.ref a), .val (.ref b), .val (.int x1)] [(.ref a)]))
    refine Go.of (fun _ q => XS.iloadN X2.here hx rfl (hb hby d3_14) rfl q) ?_
    show Go _ _ _ _ _ _ _ (T2.setTop (mkF m 15 #[.val (.ref a), .val (.ref b), .val (.int x1)] [(.int x1), (.ref a)]))
    obtain ⟨T3, h3, X3, e3, W3, st3⟩ := putF X2 hx hZ hown (host := "") (Or.inl (hw _ (List.mem_of_getElem? (i := 31) rfl))) Via.refl e2 F_a_highestCount E_a (Or.inl (hw _ (List.mem_of_getElem? (i := 32) rfl))) (hw _ (List.mem_of_getElem? (i := 18) rfl)) (ty := .int) (by decide) rfl rfl (g := (mkF m 15 #[.val (.ref a), .val (.ref b), .val (.int x1)] [(.int x1), (.ref a)])) rfl rfl (hb hby d3_15)
    refine Go.of st3 ?_
    have Zs := Nat.le_trans Zs (Nat.le_of_eq W3.size.symm)
    have Kp := Kp.wr W3 (Or.inl (List.mem_of_getElem? (i := 0) rfl))
    have E_a := E_a.wr W3
    have F_a_highest := F_a_highest.other W3 (Or.inr (slot_ne (Or.inl (hw _ (List.mem_of_getElem? (i := 57) rfl))) (Or.inl (hw _ (List.mem_of_getElem? (i := 32) rfl))) (by decide) (t := (.object "com/example/tundra_ascent/tundraascent/rules/Animal")) (t' := .int) (by decide) (by decide)))
    have F_a_highestCount := F_a_highestCount.same W3
    have F_a_tied := F_a_tied.other W3 (Or.inr (slot_ne (Or.inl (hw _ (List.mem_of_getElem? (i := 34) rfl))) (Or.inl (hw _ (List.mem_of_getElem? (i := 32) rfl))) (by decide) (t := .boolean) (t' := .int) (by decide) (by decide)))
    have N3 := Fr.snoc X3 N2 g_a
    show Go _ _ _ _ _ _ _ (T3.setTop (mkF m 18 #[.val (.ref a), .val (.ref b), .val (.int x1)] []))
    refine Go.of (fun _ q => XS.aloadN X3.here hx rfl (hb hby d3_18) rfl rfl q) ?_
    show Go _ _ _ _ _ _ _ (T3.setTop (mkF m 19 #[.val (.ref a), .val (.ref b), .val (.int x1)] [(.ref a)]))
    refine Go.of (fun _ q => XS.iconst X3.here hx rfl (hb hby d3_19) q) ?_
    show Go _ _ _ _ _ _ _ (T3.setTop (mkF m 20 #[.val (.ref a), .val (.ref b), .val (.int x1)] [(.int (0 : Int32)), (.ref a)]))
    obtain ⟨T4, h4, X4, e4, W4, st4⟩ := putFN X3 hx hZ hown (hw _ (List.mem_of_getElem? (i := 33) rfl)) Via.refl e3 F_a_tied E_a (Or.inl (hw _ (List.mem_of_getElem? (i := 34) rfl))) (hw _ (List.mem_of_getElem? (i := 18) rfl)) (ty := .boolean) (v' := .int (0 : Int32)) (by decide) rfl rfl (g := (mkF m 20 #[.val (.ref a), .val (.ref b), .val (.int x1)] [(.int (0 : Int32)), (.ref a)])) rfl rfl (hb hby d3_20)
    refine Go.of st4 ?_
    have Zs := Nat.le_trans Zs (Nat.le_of_eq W4.size.symm)
    have Kp := Kp.wr W4 (Or.inl (List.mem_of_getElem? (i := 0) rfl))
    have E_a := E_a.wr W4
    have F_a_highest := F_a_highest.other W4 (Or.inr (slot_ne (Or.inl (hw _ (List.mem_of_getElem? (i := 57) rfl))) (Or.inl (hw _ (List.mem_of_getElem? (i := 34) rfl))) (by decide) (t := (.object "com/example/tundra_ascent/tundraascent/rules/Animal")) (t' := .boolean) (by decide) (by decide)))
    have F_a_highestCount := F_a_highestCount.other W4 (Or.inr (slot_ne (Or.inl (hw _ (List.mem_of_getElem? (i := 32) rfl))) (Or.inl (hw _ (List.mem_of_getElem? (i := 34) rfl))) (by decide) (t := .int) (t' := .boolean) (by decide) (by decide)))
    have F_a_tied := F_a_tied.same W4
    have N4 := Fr.snoc X4 N3 g_a
    show Go _ _ _ _ _ _ _ (T4.setTop (mkF m 23 #[.val (.ref a), .val (.ref b), .val (.int x1)] []))
    refine Go.of (fun _ q => XS.goto X4.here hx rfl (pc0 := 23) (pc' := 39) rfl (hb hby d3_23) (by decide) (by decide) q) ?_
    show Go _ _ _ _ _ _ _ (T4.setTop (mkF m 39 #[.val (.ref a), .val (.ref b), .val (.int x1)] []))
    refine Go.retV X4 hx hlk hret (hb hby d3_39) (by decide) (by decide) ?_
    rw [e4]
    exact ⟨rfl, N4, Kp, E_a, (by unfold own_stH; rw [if_pos c5]; exact F_a_highest), (by unfold own_stC; rw [if_pos c5]; exact F_a_highestCount), (by unfold own_stT; rw [if_pos c5]; exact F_a_tied)⟩
  · refine Go.of (fun _ q => XS.icmpYes X1.here hx rfl (pc0 := 5) (pc' := 26) rfl (hb hby d3_5) rfl (flt c5).2.2.2 (by decide) (by decide) q) ?_
    show Go _ _ _ _ _ _ _ (T1.setTop (mkF m 26 #[.val (.ref a), .val (.ref b), .val (.int x1)] []))
    refine Go.of (fun _ q => XS.iloadN X1.here hx rfl (hb hby d3_26) rfl q) ?_
    show Go _ _ _ _ _ _ _ (T1.setTop (mkF m 27 #[.val (.ref a), .val (.ref b), .val (.int x1)] [(.int x1)]))
    refine Go.of (fun _ q => XS.aloadN X1.here hx rfl (hb hby d3_27) rfl rfl q) ?_
    show Go _ _ _ _ _ _ _ (T1.setTop (mkF m 28 #[.val (.ref a), .val (.ref b), .val (.int x1)] [(.ref a), (.int x1)]))
    obtain ⟨T5, X5, e5, st5⟩ := getF X1 hx hZ hown (host := "") (Or.inl (hw _ (List.mem_of_getElem? (i := 31) rfl))) Via.refl e1 F_a_highestCount (g := (mkF m 28 #[.val (.ref a), .val (.ref b), .val (.int x1)] [(.ref a), (.int x1)])) rfl rfl (hb hby d3_28)
    refine Go.of st5 ?_
    show Go _ _ _ _ _ _ _ (T5.setTop (mkF m 31 #[.val (.ref a), .val (.ref b), .val (.int x1)] [(.int hc), (.int x1)]))
    by_cases c31 : x1 = hc
    · refine Go.of (fun _ q => XS.icmpNo X5.here hx rfl (hb hby d3_31) rfl (teq c31).2 q) ?_
      show Go _ _ _ _ _ _ _ (T5.setTop (mkF m 34 #[.val (.ref a), .val (.ref b), .val (.int x1)] []))
      refine Go.of (fun _ q => XS.aloadN X5.here hx rfl (hb hby d3_34) rfl rfl q) ?_
      show Go _ _ _ _ _ _ _ (T5.setTop (mkF m 35 #[.val (.ref a), .val (.ref b), .val (.int x1)] [(.ref a)]))
      refine Go.of (fun _ q => XS.iconst X5.here hx rfl (hb hby d3_35) q) ?_
      show Go _ _ _ _ _ _ _ (T5.setTop (mkF m 36 #[.val (.ref a), .val (.ref b), .val (.int x1)] [(.int (1 : Int32)), (.ref a)]))
      obtain ⟨T6, h6, X6, e6, W6, st6⟩ := putFN X5 hx hZ hown (hw _ (List.mem_of_getElem? (i := 33) rfl)) Via.refl e5 F_a_tied E_a (Or.inl (hw _ (List.mem_of_getElem? (i := 34) rfl))) (hw _ (List.mem_of_getElem? (i := 18) rfl)) (ty := .boolean) (v' := .int (1 : Int32)) (by decide) rfl rfl (g := (mkF m 36 #[.val (.ref a), .val (.ref b), .val (.int x1)] [(.int (1 : Int32)), (.ref a)])) rfl rfl (hb hby d3_36)
      refine Go.of st6 ?_
      have Zs := Nat.le_trans Zs (Nat.le_of_eq W6.size.symm)
      have Kp := Kp.wr W6 (Or.inl (List.mem_of_getElem? (i := 0) rfl))
      have E_a := E_a.wr W6
      have F_a_highest := F_a_highest.other W6 (Or.inr (slot_ne (Or.inl (hw _ (List.mem_of_getElem? (i := 57) rfl))) (Or.inl (hw _ (List.mem_of_getElem? (i := 34) rfl))) (by decide) (t := (.object "com/example/tundra_ascent/tundraascent/rules/Animal")) (t' := .boolean) (by decide) (by decide)))
      have F_a_highestCount := F_a_highestCount.other W6 (Or.inr (slot_ne (Or.inl (hw _ (List.mem_of_getElem? (i := 32) rfl))) (Or.inl (hw _ (List.mem_of_getElem? (i := 34) rfl))) (by decide) (t := .int) (t' := .boolean) (by decide) (by decide)))
      have F_a_tied := F_a_tied.same W6
      have N6 := Fr.snoc X6 N0 g_a
      show Go _ _ _ _ _ _ _ (T6.setTop (mkF m 39 #[.val (.ref a), .val (.ref b), .val (.int x1)] []))
      refine Go.retV X6 hx hlk hret (hb hby d3_39) (by decide) (by decide) ?_
      rw [e6]
      exact ⟨rfl, N6, Kp, E_a, (by unfold own_stH; rw [if_neg c5]; exact F_a_highest), (by unfold own_stC; rw [if_neg c5]; exact F_a_highestCount), (by unfold own_stT; rw [if_neg c5, if_pos c31]; exact F_a_tied)⟩
    · refine Go.of (fun _ q => XS.icmpYes X5.here hx rfl (pc0 := 31) (pc' := 39) rfl (hb hby d3_31) rfl (feq c31).2 (by decide) (by decide) q) ?_
      show Go _ _ _ _ _ _ _ (T5.setTop (mkF m 39 #[.val (.ref a), .val (.ref b), .val (.int x1)] []))
      refine Go.retV X5 hx hlk hret (hb hby d3_39) (by decide) (by decide) ?_
      rw [e5]
      exact ⟨rfl, N0, Kp, E_a, (by unfold own_stH; rw [if_neg c5]; exact F_a_highest), (by unfold own_stC; rw [if_neg c5]; exact F_a_highestCount), (by unfold own_stT; rw [if_neg c5, if_neg c31]; exact F_a_tied)⟩
theorem d5_0 : decode jdk_32_method_1_code 0 = .ok (.getstatic 1, 3) := by decide +kernel
theorem d5_3 : decode jdk_32_method_1_code 3 = .ok (.astore_n 0, 1) := by decide +kernel
theorem d5_4 : decode jdk_32_method_1_code 4 = .ok (.aload_n 0, 1) := by decide +kernel
theorem d5_5 : decode jdk_32_method_1_code 5 = .ok (.areturn, 1) := by decide +kernel
theorem pn1 : plainName "java/util/Optional" = true := by first | (simp [plainName, overriddenIn]; done) | decide +kernel
theorem ef_5 (m : MethodId)  : entryFrame m #[] 1 = mkF m 0 #[.unset] [] := by first | (simp [entryFrame, mkF, argsToLocals, Value.category]; done) | rfl
def Q5 (Z : State) (em : Addr) (h0 : Heap) (n0 : Nat) (v : Option Value) (h : Heap) (L : List Loc) : Prop := v = some (.ref em) ∧ Fr n0 L ∧ h = h0
set_option maxRecDepth 65536 in
set_option maxHeartbeats 40000000 in
theorem rm5 (l : Launch) (Z : State) (a0 : Array Value) (hw : ∀ d ∈ tables_1, d.before a0 Z = true) (em : Addr) (h0 : Heap) (n0 : Nat) (Zs : n0 ≤ h0.size) (Od : Old Z n0 h0) (Sem : Sta Z Z.heap "java/util/Optional" "EMPTY" "Ljava/util/Optional;" (.ref em)) (Eem : Exa Z Z.heap em "java/util/Optional") (Fem : Fld Z Z.heap em "java/util/Optional" "value" "Ljava/lang/Object;" .null) :
    Con l Z (⟨"java/util/Optional", "empty", "()Ljava/util/Optional;"⟩ : MethodName) jdk_32_method_1_code 1 (some (.object "java/util/Optional")) ({ frames := 0, cells := 0, slots := 0, locals := 0 } : Room) #[] h0 (Q5 Z em h0 n0) := by
  refine Con.intro (plainFor_of_name pn1) (fun m => ef_5 m ) ?_
  intro p e s m below meth c s₁ hx hby hml0 hZ hown hnm hret hlk X0 e0
  have hml : c.maxLocals = 1 := hml0
  have N0 := Fr.nil n0
  have Kp : Keep h0 h0 [] := Keep.refl h0 _
  show Go _ _ _ _ _ _ _ (s₁.setTop (mkF m 0 #[.unset] []))
  obtain ⟨T1, X1, e1, st1⟩ := getS2 X0 hx hZ hown (host := "") (Or.inl (hw _ (List.mem_of_getElem? (i := 44) rfl))) Via.refl e0 (Sta.ext Od.2 Sem) (g := (mkF m 0 #[.unset] [])) rfl (hb hby d5_0)
  refine Go.of st1 ?_
  show Go _ _ _ _ _ _ _ (T1.setTop (mkF m 3 #[.unset] [(.ref em)]))
  refine Go.of (fun _ q => XS.astoreN X1.here hx rfl (hb hby d5_3) rfl rfl (l' := #[.val (.ref em)]) rfl q) ?_
  show Go _ _ _ _ _ _ _ (T1.setTop (mkF m 4 #[.val (.ref em)] []))
  refine Go.of (fun _ q => XS.aloadN X1.here hx rfl (hb hby d5_4) rfl rfl q) ?_
  show Go _ _ _ _ _ _ _ (T1.setTop (mkF m 5 #[.val (.ref em)] [(.ref em)]))
  refine Go.retA X1 hx hlk hret rfl rfl (hb hby d5_5) (by decide) (by decide) ?_
  rw [e1]
  exact ⟨rfl, N0, rfl⟩
theorem d9_0 : decode jdk_32_method_2_code 0 = .ok (.aload_n 0, 1) := by decide +kernel
theorem d9_1 : decode jdk_32_method_2_code 1 = .ok (.invokespecial 7, 3) := by decide +kernel
theorem d9_4 : decode jdk_32_method_2_code 4 = .ok (.aload_n 0, 1) := by decide +kernel
theorem d9_5 : decode jdk_32_method_2_code 5 = .ok (.aload_n 1, 1) := by decide +kernel
theorem d9_6 : decode jdk_32_method_2_code 6 = .ok (.putfield 13, 3) := by decide +kernel
theorem d9_9 : decode jdk_32_method_2_code 9 = .ok (.return_, 1) := by decide +kernel
theorem ef_9 (m : MethodId) (a : Addr) (b : Addr) : entryFrame m #[(.ref a), (.ref b)] 2 = mkF m 0 #[.val (.ref a), .val (.ref b)] [] := by first | (simp [entryFrame, mkF, argsToLocals, Value.category]; done) | rfl
def Q9 (Z : State) (a : Addr) (b : Addr) (u1 : Value) (h0 : Heap) (n0 : Nat) (v : Option Value) (h : Heap) (L : List Loc) : Prop := v = none ∧ Fr n0 L ∧ Keep h0 h [a] ∧ Exa Z h a "java/util/Optional" ∧ Fld Z h a "java/util/Optional" "value" "Ljava/lang/Object;" (.ref b)
set_option maxRecDepth 65536 in
set_option maxHeartbeats 40000000 in
theorem rm9 (l : Launch) (Z : State) (a0 : Array Value) (hw : ∀ d ∈ tables_1, d.before a0 Z = true) (a : Addr) (b : Addr) (u1 : Value) (h0 : Heap) (n0 : Nat) (Zs : n0 ≤ h0.size) (E_a : Exa Z h0 a "java/util/Optional") (F_a_value : Fld Z h0 a "java/util/Optional" "value" "Ljava/lang/Object;" u1) (g_a : n0 ≤ a) :
    Con l Z (⟨"java/util/Optional", "<init>", "(Ljava/lang/Object;)V"⟩ : MethodName) jdk_32_method_2_code 2 none ({ frames := 1, cells := 0, slots := 0, locals := 12 } : Room) #[(.ref a), (.ref b)] h0 (Q9 Z a b u1 h0 n0) := by
  refine Con.intro (plainFor_of_name pn1) (fun m => ef_9 m a b) ?_
  intro p e s m below meth c s₁ hx hby hml0 hZ hown hnm hret hlk X0 e0
  have hml : c.maxLocals = 2 := hml0
  have N0 := Fr.nil n0
  have Kp : Keep h0 h0 [a] := Keep.refl h0 _
  show Go _ _ _ _ _ _ _ (s₁.setTop (mkF m 0 #[.val (.ref a), .val (.ref b)] []))
  refine Go.of (fun _ q => XS.aloadN X0.here hx rfl (hb hby d9_0) rfl rfl q) ?_
  show Go _ _ _ _ _ _ _ (s₁.setTop (mkF m 1 #[.val (.ref a), .val (.ref b)] [(.ref a)]))
  obtain ⟨T1, X1, e1, st1⟩ := initO X0 hx hZ hown (hw _ (List.mem_of_getElem? (i := 67) rfl)) (hw _ (List.mem_of_getElem? (i := 24) rfl)) (hw _ (List.mem_of_getElem? (i := 25) rfl)) e0 (g := (mkF m 1 #[.val (.ref a), .val (.ref b)] [(.ref a)])) rfl (by rw [hml]; rfl) rfl (hb hby d9_1) (by decide) (W := 0) (by show 2 * 0 + _ ≤ _; exact Nat.le_of_eq rfl) (by decide)
  refine Go.of st1 ?_
  show Go _ _ _ _ _ _ _ (T1.setTop (mkF m 4 #[.val (.ref a), .val (.ref b)] []))
  refine Go.of (fun _ q => XS.aloadN X1.here hx rfl (hb hby d9_4) rfl rfl q) ?_
  show Go _ _ _ _ _ _ _ (T1.setTop (mkF m 5 #[.val (.ref a), .val (.ref b)] [(.ref a)]))
  refine Go.of (fun _ q => XS.aloadN X1.here hx rfl (hb hby d9_5) rfl rfl q) ?_
  show Go _ _ _ _ _ _ _ (T1.setTop (mkF m 6 #[.val (.ref a), .val (.ref b)] [(.ref b), (.ref a)]))
  obtain ⟨T2, h2, X2, e2, W2, st2⟩ := putF X1 hx hZ hown (host := "") (Or.inl (hw _ (List.mem_of_getElem? (i := 50) rfl))) Via.refl e1 F_a_value E_a (Or.inr ⟨(hw _ (List.mem_of_getElem? (i := 51) rfl)), rfl, hnm⟩) (hw _ (List.mem_of_getElem? (i := 62) rfl)) (ty := (.object "java/lang/Object")) (by decide) rfl rfl (g := (mkF m 6 #[.val (.ref a), .val (.ref b)] [(.ref b), (.ref a)])) rfl rfl (hb hby d9_6)
  refine Go.of st2 ?_
  have Zs := Nat.le_trans Zs (Nat.le_of_eq W2.size.symm)
  have Kp := Kp.wr W2 (Or.inl (List.mem_of_getElem? (i := 0) rfl))
  have E_a := E_a.wr W2
  have F_a_value := F_a_value.same W2
  have N2 := Fr.snoc X2 N0 g_a
  show Go _ _ _ _ _ _ _ (T2.setTop (mkF m 9 #[.val (.ref a), .val (.ref b)] []))
  refine Go.retV X2 hx hlk hret (hb hby d9_9) (by decide) (by decide) ?_
  rw [e2]
  exact ⟨rfl, N2, Kp, E_a, F_a_value⟩
theorem pd0 : parseMethodDescriptor "(Ljava/lang/Object;)V" = some ⟨[(.object "java/lang/Object")], none⟩ := by decide +kernel
theorem d8_0 : decode jdk_32_method_4_code 0 = .ok (.aload_n 0, 1) := by decide +kernel
theorem d8_1 : decode jdk_32_method_4_code 1 = .ok (.ifnonnull 9, 3) := by decide +kernel
theorem d8_4 : decode jdk_32_method_4_code 4 = .ok (.getstatic 1, 3) := by decide +kernel
theorem d8_7 : decode jdk_32_method_4_code 7 = .ok (.goto 11, 3) := by decide +kernel
theorem d8_10 : decode jdk_32_method_4_code 10 = .ok (.new 2, 3) := by decide +kernel
theorem d8_13 : decode jdk_32_method_4_code 13 = .ok (.dup, 1) := by decide +kernel
theorem d8_14 : decode jdk_32_method_4_code 14 = .ok (.aload_n 0, 1) := by decide +kernel
theorem d8_15 : decode jdk_32_method_4_code 15 = .ok (.invokespecial 23, 3) := by decide +kernel
theorem d8_18 : decode jdk_32_method_4_code 18 = .ok (.areturn, 1) := by decide +kernel
theorem ef_8 (m : MethodId) (v1 : Value) (rv1 : v1.isRef = true) : entryFrame m #[v1] 1 = mkF m 0 #[.val v1] [] := by first | (simp [entryFrame, mkF, argsToLocals, Value.category]; done) | rfl | (cases v1 <;> first | rfl | (simp [Value.isRef] at *; done))
def Q8 (Z : State) (v1 : Value) (rv1 : v1.isRef = true) (em : Addr) (h0 : Heap) (n0 : Nat) (v : Option Value) (h : Heap) (L : List Loc) : Prop := ∃ ob : Addr, v = some (.ref ob) ∧ Fr n0 L ∧ Keep h0 h [] ∧ Exa Z h ob "java/util/Optional" ∧ Fld Z h ob "java/util/Optional" "value" "Ljava/lang/Object;" v1
set_option maxRecDepth 65536 in
set_option maxHeartbeats 40000000 in
theorem rm8 (l : Launch) (Z : State) (a0 : Array Value) (hw : ∀ d ∈ tables_1, d.before a0 Z = true) (v1 : Value) (rv1 : v1.isRef = true) (em : Addr) (h0 : Heap) (n0 : Nat) (Zs : n0 ≤ h0.size) (Od : Old Z n0 h0) (Sem : Sta Z Z.heap "java/util/Optional" "EMPTY" "Ljava/util/Optional;" (.ref em)) (Eem : Exa Z Z.heap em "java/util/Optional") (Fem : Fld Z Z.heap em "java/util/Optional" "value" "Ljava/lang/Object;" .null) :
    Con l Z (⟨"java/util/Optional", "ofNullable", "(Ljava/lang/Object;)Ljava/util/Optional;"⟩ : MethodName) jdk_32_method_4_code 1 (some (.object "java/util/Optional")) ({ frames := 2, cells := 1, slots := 1, locals := 26 } : Room) #[v1] h0 (Q8 Z v1 rv1 em h0 n0) := by
  refine Con.intro (plainFor_of_name pn1) (fun m => ef_8 m v1 rv1) ?_
  intro p e s m below meth c s₁ hx hby hml0 hZ hown hnm hret hlk X0 e0
  have hml : c.maxLocals = 1 := hml0
  have N0 := Fr.nil n0
  have Kp : Keep h0 h0 [] := Keep.refl h0 _
  show Go _ _ _ _ _ _ _ (s₁.setTop (mkF m 0 #[.val v1] []))
  refine Go.of (fun _ q => XS.aloadN X0.here hx rfl (hb hby d8_0) rfl rv1 q) ?_
  show Go _ _ _ _ _ _ _ (s₁.setTop (mkF m 1 #[.val v1] [v1]))
  rcases ref_cases rv1 with rfl | ⟨b, rfl⟩
  · refine Go.of (fun _ q => XS.ifnonnullNo X0.here hx rfl (hb hby d8_1) rfl q) ?_
    show Go _ _ _ _ _ _ _ (s₁.setTop (mkF m 4 #[.val .null] []))
    obtain ⟨T1, X1, e1, st1⟩ := getS2 X0 hx hZ hown (host := "") (Or.inl (hw _ (List.mem_of_getElem? (i := 44) rfl))) Via.refl e0 (Sta.ext Od.2 Sem) (g := (mkF m 4 #[.val .null] [])) rfl (hb hby d8_4)
    refine Go.of st1 ?_
    have E_em := Exa.ext Od.2 Eem
    have F_em_value := Fld.ext Od.2 Fem
    show Go _ _ _ _ _ _ _ (T1.setTop (mkF m 7 #[.val .null] [(.ref em)]))
    refine Go.of (fun _ q => XS.goto X1.here hx rfl (pc0 := 7) (pc' := 18) rfl (hb hby d8_7) (by decide) (by decide) q) ?_
    show Go _ _ _ _ _ _ _ (T1.setTop (mkF m 18 #[.val .null] [(.ref em)]))
    refine Go.retA X1 hx hlk hret rfl rfl (hb hby d8_18) (by decide) (by decide) ?_
    rw [e1]
    exact ⟨em, rfl, N0, Kp, E_em, F_em_value⟩
  · refine Go.of (fun _ q => XS.ifnonnullYes X0.here hx rfl (pc0 := 1) (pc' := 10) rfl (hb hby d8_1) rfl (by decide) (by decide) q) ?_
    show Go _ _ _ _ _ _ _ (s₁.setTop (mkF m 10 #[.val (.ref b)] []))
    obtain ⟨T2, h2, X2, e2, E2, A2, D2, -, st2⟩ := newO X0 hx hZ hown (hw _ (List.mem_of_getElem? (i := 61) rfl)) (hw _ (List.mem_of_getElem? (i := 62) rfl)) (hw _ (List.mem_of_getElem? (i := 42) rfl)) e0 (g := (mkF m 10 #[.val (.ref b)] [])) rfl (hb hby d8_10) (by decide) (by decide)
    obtain ⟨op, g2⟩ : ∃ z, z = h0.size := ⟨_, rfl⟩
    rw [← g2] at A2 D2 st2
    refine Go.of st2 ?_
    have g_op : n0 ≤ op := Nat.le_trans Zs (Nat.le_of_eq g2.symm)
    have sz_op : h0.size ≤ op := Nat.le_trans Kp.1 (Nat.le_of_eq g2.symm)
    have Zs := Nat.le_trans Zs E2.1
    have Kp := Kp.ext E2
    have Od := Od.ext E2
    have E_op := A2
    have F_op_value : Fld Z h2 op "java/util/Optional" "value" "Ljava/lang/Object;" .null := D2 (Or.inr (hw _ (List.mem_of_getElem? (i := 51) rfl))) (ty := (.object "java/lang/Object")) (by decide)
    show Go _ _ _ _ _ _ _ (T2.setTop (mkF m 13 #[.val (.ref b)] [(.ref op)]))
    refine Go.of (fun _ q => XS.dup X2.here hx rfl (hb hby d8_13) rfl rfl q) ?_
    show Go _ _ _ _ _ _ _ (T2.setTop (mkF m 14 #[.val (.ref b)] [(.ref op), (.ref op)]))
    refine Go.of (fun _ q => XS.aloadN X2.here hx rfl (hb hby d8_14) rfl rfl q) ?_
    show Go _ _ _ _ _ _ _ (T2.setTop (mkF m 15 #[.val (.ref b)] [(.ref b), (.ref op), (.ref op)]))
    refine Go.special X2 hx hZ (y := (⟨"java/util/Optional", "<init>", "(Ljava/lang/Object;)V"⟩ : MethodName)) (a := op) (argsL := [(.ref b)]) rfl hown (hw _ (List.mem_of_getElem? (i := 63) rfl)) (hw _ (List.mem_of_getElem? (i := 64) rfl)) (hw _ (List.mem_of_getElem? (i := 42) rfl)) (hw _ (List.mem_of_getElem? (i := 66) rfl)) (by decide) 1 e2 (rm9 l Z a0 hw op b .null h2 n0 Zs E_op F_op_value g_op) (by decide) (by decide) (by decide) (by decide) (g := (mkF m 15 #[.val (.ref b)] [(.ref b), (.ref op), (.ref op)])) rfl (by rw [hml]; rfl) (rest := [(.ref op)]) (lenOf pd0 rfl) rfl (by show 2 * 0 + _ ≤ _; exact Nat.le_of_eq rfl) (hb hby d8_15) ?_
    intro T3 v3 L3 X3 q3
    obtain ⟨rfl, Nq3, K3, f3_0, f3_1⟩ := q3
    have N3 := Fr.app N0 Nq3
    have Zs := Nat.le_trans Zs K3.1
    have Kp := Kp.trans K3 (allS (P := fun x => x ∈ [] ∨ h0.size ≤ x) (Or.inr sz_op) all0)
    have Od := Od.keep K3 (allS (P := fun x => n0 ≤ x) g_op all0)
    have E_op := E_op.keep K3
    have F_op_value := f3_1
    show Go _ _ _ _ _ _ _ (T3.setTop (mkF m 18 #[.val (.ref b)] [(.ref op)]))
    refine Go.retA X3 hx hlk hret rfl rfl (hb hby d8_18) (by decide) (by decide) ?_
    exact ⟨op, rfl, N3, Kp, E_op, F_op_value⟩
theorem pd1 : parseMethodDescriptor "(Ljava/lang/Object;)Ljava/util/Optional;" = some ⟨[(.object "java/lang/Object")], some (.object "java/util/Optional")⟩ := by decide +kernel
theorem pd2 : parseMethodDescriptor "()Ljava/util/Optional;" = some ⟨[], some (.object "java/util/Optional")⟩ := by decide +kernel
theorem d4_0 : decode prog_30_method_3_code 0 = .ok (.aload_n 0, 1) := by decide +kernel
theorem d4_1 : decode prog_30_method_3_code 1 = .ok (.getfield 17, 3) := by decide +kernel
theorem d4_4 : decode prog_30_method_3_code 4 = .ok (.ifCond .eq 9, 3) := by decide +kernel
theorem d4_7 : decode prog_30_method_3_code 7 = .ok (.invokestatic 21, 3) := by decide +kernel
theorem d4_10 : decode prog_30_method_3_code 10 = .ok (.goto 10, 3) := by decide +kernel
theorem d4_13 : decode prog_30_method_3_code 13 = .ok (.aload_n 0, 1) := by decide +kernel
theorem d4_14 : decode prog_30_method_3_code 14 = .ok (.getfield 13, 3) := by decide +kernel
theorem d4_17 : decode prog_30_method_3_code 17 = .ok (.invokestatic 27, 3) := by decide +kernel
theorem d4_20 : decode prog_30_method_3_code 20 = .ok (.areturn, 1) := by decide +kernel
theorem ef_4 (m : MethodId) (a : Addr) : entryFrame m #[(.ref a)] 1 = mkF m 0 #[.val (.ref a)] [] := by first | (simp [entryFrame, mkF, argsToLocals, Value.category]; done) | rfl
def Q4 (Z : State) (a : Addr) (hi : Value) (rhi : hi.isRef = true) (ti : Int32) (em : Addr) (h0 : Heap) (n0 : Nat) (v : Option Value) (h : Heap) (L : List Loc) : Prop := ∃ ob : Addr, v = some (.ref ob) ∧ Fr n0 L ∧ Keep h0 h [] ∧ Exa Z h ob "java/util/Optional" ∧ Fld Z h ob "java/util/Optional" "value" "Ljava/lang/Object;" (if ti = (0 : Int32) then hi else Value.null)
set_option maxRecDepth 65536 in
set_option maxHeartbeats 40000000 in
theorem rm4 (l : Launch) (Z : State) (a0 : Array Value) (hw : ∀ d ∈ tables_1, d.before a0 Z = true) (a : Addr) (hi : Value) (rhi : hi.isRef = true) (ti : Int32) (em : Addr) (h0 : Heap) (n0 : Nat) (Zs : n0 ≤ h0.size) (Od : Old Z n0 h0) (F_a_highest : Fld Z h0 a "com/example/tundra_ascent/tundraascent/rules/StrictlyMost" "highest" "Lcom/example/tundra_ascent/tundraascent/rules/Animal;" hi) (F_a_tied : Fld Z h0 a "com/example/tundra_ascent/tundraascent/rules/StrictlyMost" "tied" "Z" (.int ti)) (Sem : Sta Z Z.heap "java/util/Optional" "EMPTY" "Ljava/util/Optional;" (.ref em)) (Eem : Exa Z Z.heap em "java/util/Optional") (Fem : Fld Z Z.heap em "java/util/Optional" "value" "Ljava/lang/Object;" .null) :
    Con l Z (⟨"com/example/tundra_ascent/tundraascent/rules/StrictlyMost", "animal", "()Ljava/util/Optional;"⟩ : MethodName) prog_30_method_3_code 1 (some (.object "java/util/Optional")) ({ frames := 3, cells := 1, slots := 1, locals := 38 } : Room) #[(.ref a)] h0 (Q4 Z a hi rhi ti em h0 n0) := by
  refine Con.intro (plainFor_of_name pn0) (fun m => ef_4 m a) ?_
  intro p e s m below meth c s₁ hx hby hml0 hZ hown hnm hret hlk X0 e0
  have hml : c.maxLocals = 1 := hml0
  have N0 := Fr.nil n0
  have Kp : Keep h0 h0 [] := Keep.refl h0 _
  show Go _ _ _ _ _ _ _ (s₁.setTop (mkF m 0 #[.val (.ref a)] []))
  refine Go.of (fun _ q => XS.aloadN X0.here hx rfl (hb hby d4_0) rfl rfl q) ?_
  show Go _ _ _ _ _ _ _ (s₁.setTop (mkF m 1 #[.val (.ref a)] [(.ref a)]))
  obtain ⟨T1, X1, e1, st1⟩ := getF X0 hx hZ hown (host := "") (Or.inl (hw _ (List.mem_of_getElem? (i := 33) rfl))) Via.refl e0 F_a_tied (g := (mkF m 1 #[.val (.ref a)] [(.ref a)])) rfl rfl (hb hby d4_1)
  refine Go.of st1 ?_
  show Go _ _ _ _ _ _ _ (T1.setTop (mkF m 4 #[.val (.ref a)] [(.int ti)]))
  by_cases c4 : ti = (0 : Int32)
  · refine Go.of (fun _ q => XS.ifYes X1.here hx rfl (pc0 := 4) (pc' := 13) rfl (hb hby d4_4) rfl ((if0 _ _).trans (teq c4).1) (by decide) (by decide) q) ?_
    show Go _ _ _ _ _ _ _ (T1.setTop (mkF m 13 #[.val (.ref a)] []))
    refine Go.of (fun _ q => XS.aloadN X1.here hx rfl (hb hby d4_13) rfl rfl q) ?_
    show Go _ _ _ _ _ _ _ (T1.setTop (mkF m 14 #[.val (.ref a)] [(.ref a)]))
    obtain ⟨T2, X2, e2, st2⟩ := getF X1 hx hZ hown (host := "") (Or.inl (hw _ (List.mem_of_getElem? (i := 56) rfl))) Via.refl e1 F_a_highest (g := (mkF m 14 #[.val (.ref a)] [(.ref a)])) rfl rfl (hb hby d4_14)
    refine Go.of st2 ?_
    show Go _ _ _ _ _ _ _ (T2.setTop (mkF m 17 #[.val (.ref a)] [hi]))
    refine Go.static X2 hx hZ (y := (⟨"java/util/Optional", "ofNullable", "(Ljava/lang/Object;)Ljava/util/Optional;"⟩ : MethodName)) (argsL := [hi]) hown (hw _ (List.mem_of_getElem? (i := 58) rfl)) (hw _ (List.mem_of_getElem? (i := 59) rfl)) (hw _ (List.mem_of_getElem? (i := 42) rfl)) (hw _ (List.mem_of_getElem? (i := 60) rfl)) (by decide) 0 e2 (rm8 l Z a0 hw hi rhi em h0 n0 Zs Od Sem Eem Fem) (by decide) (by decide) (by decide) (by decide) (g := (mkF m 17 #[.val (.ref a)] [hi])) rfl (by rw [hml]; rfl) (rest := []) (lenOf pd1 rfl) rfl (by show 2 * 0 + _ ≤ _; exact Nat.le_of_eq rfl) (hb hby d4_17) ?_
    intro T3 v3 L3 X3 q3
    obtain ⟨ob1, rfl, Nq3, K3, f3_0, f3_1⟩ := q3
    have N3 := Fr.app N0 Nq3
    have Zs := Nat.le_trans Zs K3.1
    have Kp := Kp.trans K3 all0
    have Od := Od.keep K3 all0
    have F_a_highest := F_a_highest.keep K3 nin0
    have F_a_tied := F_a_tied.keep K3 nin0
    have E_ob1 := f3_0
    have F_ob1_value := f3_1
    show Go _ _ _ _ _ _ _ (T3.setTop (mkF m 20 #[.val (.ref a)] [(.ref ob1)]))
    refine Go.retA X3 hx hlk hret rfl rfl (hb hby d4_20) (by decide) (by decide) ?_
    exact ⟨ob1, rfl, N3, Kp, E_ob1, (by rw [if_pos c4]; exact F_ob1_value)⟩
  · refine Go.of (fun _ q => XS.ifNo X1.here hx rfl (hb hby d4_4) rfl ((if0 _ _).trans (feq c4).1) q) ?_
    show Go _ _ _ _ _ _ _ (T1.setTop (mkF m 7 #[.val (.ref a)] []))
    refine Go.static X1 hx hZ (y := (⟨"java/util/Optional", "empty", "()Ljava/util/Optional;"⟩ : MethodName)) (argsL := []) hown (hw _ (List.mem_of_getElem? (i := 40) rfl)) (hw _ (List.mem_of_getElem? (i := 41) rfl)) (hw _ (List.mem_of_getElem? (i := 42) rfl)) (hw _ (List.mem_of_getElem? (i := 43) rfl)) (by decide) 0 e1 (rm5 l Z a0 hw em h0 n0 Zs Od Sem Eem Fem) (by decide) (by decide) (by decide) (by decide) (g := (mkF m 7 #[.val (.ref a)] [])) rfl (by rw [hml]; rfl) (rest := []) (lenOf pd2 rfl) rfl (by show 2 * 0 + _ ≤ _; exact Nat.le_of_eq rfl) (hb hby d4_7) ?_
    intro T4 v4 L4 X4 q4
    obtain ⟨rfl, Nq4, e4⟩ := q4
    have N4 := Fr.app N0 Nq4
    have E_em := Exa.ext Od.2 Eem
    have F_em_value := Fld.ext Od.2 Fem
    show Go _ _ _ _ _ _ _ (T4.setTop (mkF m 10 #[.val (.ref a)] [(.ref em)]))
    refine Go.of (fun _ q => XS.goto X4.here hx rfl (pc0 := 10) (pc' := 20) rfl (hb hby d4_10) (by decide) (by decide) q) ?_
    show Go _ _ _ _ _ _ _ (T4.setTop (mkF m 20 #[.val (.ref a)] [(.ref em)]))
    refine Go.retA X4 hx hlk hret rfl rfl (hb hby d4_20) (by decide) (by decide) ?_
    rw [e4]
    exact ⟨em, rfl, N4, Kp, E_em, (by rw [if_neg c4]; exact F_em_value)⟩
theorem d6_0 : decode jdk_32_method_15_code 0 = .ok (.aload_n 0, 1) := by decide +kernel
theorem d6_1 : decode jdk_32_method_15_code 1 = .ok (.getfield 13, 3) := by decide +kernel
theorem d6_4 : decode jdk_32_method_15_code 4 = .ok (.ifnull 10, 3) := by decide +kernel
theorem d6_7 : decode jdk_32_method_15_code 7 = .ok (.aload_n 0, 1) := by decide +kernel
theorem d6_8 : decode jdk_32_method_15_code 8 = .ok (.getfield 13, 3) := by decide +kernel
theorem d6_11 : decode jdk_32_method_15_code 11 = .ok (.goto 4, 3) := by decide +kernel
theorem d6_14 : decode jdk_32_method_15_code 14 = .ok (.aload_n 1, 1) := by decide +kernel
theorem d6_15 : decode jdk_32_method_15_code 15 = .ok (.areturn, 1) := by decide +kernel
theorem ef_6 (m : MethodId) (a : Addr) : entryFrame m #[(.ref a), .null] 2 = mkF m 0 #[.val (.ref a), .val .null] [] := by first | (simp [entryFrame, mkF, argsToLocals, Value.category]; done) | rfl
def Q6 (Z : State) (a : Addr) (v1 : Value) (rv1 : v1.isRef = true) (h0 : Heap) (n0 : Nat) (v : Option Value) (h : Heap) (L : List Loc) : Prop := v = some v1 ∧ Fr n0 L ∧ h = h0
set_option maxRecDepth 65536 in
set_option maxHeartbeats 40000000 in
theorem rm6 (l : Launch) (Z : State) (a0 : Array Value) (hw : ∀ d ∈ tables_1, d.before a0 Z = true) (a : Addr) (v1 : Value) (rv1 : v1.isRef = true) (h0 : Heap) (n0 : Nat) (Zs : n0 ≤ h0.size) (F_a_value : Fld Z h0 a "java/util/Optional" "value" "Ljava/lang/Object;" v1) :
    Con l Z (⟨"java/util/Optional", "orElse", "(Ljava/lang/Object;)Ljava/lang/Object;"⟩ : MethodName) jdk_32_method_15_code 2 (some (.object "java/lang/Object")) ({ frames := 0, cells := 0, slots := 0, locals := 0 } : Room) #[(.ref a), .null] h0 (Q6 Z a v1 rv1 h0 n0) := by
  refine Con.intro (plainFor_of_name pn1) (fun m => ef_6 m a) ?_
  intro p e s m below meth c s₁ hx hby hml0 hZ hown hnm hret hlk X0 e0
  have hml : c.maxLocals = 2 := hml0
  have N0 := Fr.nil n0
  have Kp : Keep h0 h0 [] := Keep.refl h0 _
  show Go _ _ _ _ _ _ _ (s₁.setTop (mkF m 0 #[.val (.ref a), .val .null] []))
  refine Go.of (fun _ q => XS.aloadN X0.here hx rfl (hb hby d6_0) rfl rfl q) ?_
  show Go _ _ _ _ _ _ _ (s₁.setTop (mkF m 1 #[.val (.ref a), .val .null] [(.ref a)]))
  obtain ⟨T1, X1, e1, st1⟩ := getF X0 hx hZ hown (host := "") (Or.inl (hw _ (List.mem_of_getElem? (i := 50) rfl))) Via.refl e0 F_a_value (g := (mkF m 1 #[.val (.ref a), .val .null] [(.ref a)])) rfl rfl (hb hby d6_1)
  refine Go.of st1 ?_
  show Go _ _ _ _ _ _ _ (T1.setTop (mkF m 4 #[.val (.ref a), .val .null] [v1]))
  rcases ref_cases rv1 with rfl | ⟨b, rfl⟩
  · refine Go.of (fun _ q => XS.ifnullYes X1.here hx rfl (pc0 := 4) (pc' := 14) rfl (hb hby d6_4) rfl (by decide) (by decide) q) ?_
    show Go _ _ _ _ _ _ _ (T1.setTop (mkF m 14 #[.val (.ref a), .val .null] []))
    refine Go.of (fun _ q => XS.aloadN X1.here hx rfl (hb hby d6_14) rfl rfl q) ?_
    show Go _ _ _ _ _ _ _ (T1.setTop (mkF m 15 #[.val (.ref a), .val .null] [.null]))
    refine Go.retA X1 hx hlk hret rfl rfl (hb hby d6_15) (by decide) (by decide) ?_
    rw [e1]
    exact ⟨rfl, N0, rfl⟩
  · refine Go.of (fun _ q => XS.ifnullNo X1.here hx rfl (hb hby d6_4) rfl q) ?_
    show Go _ _ _ _ _ _ _ (T1.setTop (mkF m 7 #[.val (.ref a), .val .null] []))
    refine Go.of (fun _ q => XS.aloadN X1.here hx rfl (hb hby d6_7) rfl rfl q) ?_
    show Go _ _ _ _ _ _ _ (T1.setTop (mkF m 8 #[.val (.ref a), .val .null] [(.ref a)]))
    obtain ⟨T2, X2, e2, st2⟩ := getF X1 hx hZ hown (host := "") (Or.inl (hw _ (List.mem_of_getElem? (i := 50) rfl))) Via.refl e1 F_a_value (g := (mkF m 8 #[.val (.ref a), .val .null] [(.ref a)])) rfl rfl (hb hby d6_8)
    refine Go.of st2 ?_
    show Go _ _ _ _ _ _ _ (T2.setTop (mkF m 11 #[.val (.ref a), .val .null] [(.ref b)]))
    refine Go.of (fun _ q => XS.goto X2.here hx rfl (pc0 := 11) (pc' := 15) rfl (hb hby d6_11) (by decide) (by decide) q) ?_
    show Go _ _ _ _ _ _ _ (T2.setTop (mkF m 15 #[.val (.ref a), .val .null] [(.ref b)]))
    refine Go.retA X2 hx hlk hret rfl rfl (hb hby d6_15) (by decide) (by decide) ?_
    rw [e2]
    exact ⟨rfl, N0, rfl⟩
theorem d7_0 : decode method_2_code 0 = .ok (.iload_n 0, 1) := by decide +kernel
theorem d7_1 : decode method_2_code 1 = .ok (.ifCond .eq 31, 3) := by decide +kernel
theorem d7_4 : decode method_2_code 4 = .ok (.iload_n 1, 1) := by decide +kernel
theorem d7_5 : decode method_2_code 5 = .ok (.ifCond .le 27, 3) := by decide +kernel
theorem d7_8 : decode method_2_code 8 = .ok (.iload_n 2, 1) := by decide +kernel
theorem d7_9 : decode method_2_code 9 = .ok (.ifCond .eq 8, 3) := by decide +kernel
theorem d7_12 : decode method_2_code 12 = .ok (.iload_n 3, 1) := by decide +kernel
theorem d7_13 : decode method_2_code 13 = .ok (.iload_n 1, 1) := by decide +kernel
theorem d7_14 : decode method_2_code 14 = .ok (.if_icmp .ge 18, 3) := by decide +kernel
theorem d7_17 : decode method_2_code 17 = .ok (.iload 4, 2) := by decide +kernel
theorem d7_19 : decode method_2_code 19 = .ok (.ifCond .eq 9, 3) := by decide +kernel
theorem d7_22 : decode method_2_code 22 = .ok (.iload 5, 2) := by decide +kernel
theorem d7_24 : decode method_2_code 24 = .ok (.iload_n 1, 1) := by decide +kernel
theorem d7_25 : decode method_2_code 25 = .ok (.if_icmp .ge 7, 3) := by decide +kernel
theorem d7_28 : decode method_2_code 28 = .ok (.iconst 1, 1) := by decide +kernel
theorem d7_29 : decode method_2_code 29 = .ok (.goto 4, 3) := by decide +kernel
theorem d7_32 : decode method_2_code 32 = .ok (.iconst 0, 1) := by decide +kernel
theorem d7_33 : decode method_2_code 33 = .ok (.ireturn, 1) := by decide +kernel
theorem pn2 : plainName "com/example/tundra_ascent/tundraascent/rules/StrictlyMostCountPinLaw" = true := by first | (simp [plainName, overriddenIn]; done) | decide +kernel
theorem ef_7 (m : MethodId) (x1 : Int32) (x2 : Int32) (x3 : Int32) (x4 : Int32) (x5 : Int32) (x6 : Int32) : entryFrame m #[(.int x1), (.int x2), (.int x3), (.int x4), (.int x5), (.int x6)] 6 = mkF m 0 #[.val (.int x1), .val (.int x2), .val (.int x3), .val (.int x4), .val (.int x5), .val (.int x6)] [] := by first | (simp [entryFrame, mkF, argsToLocals, Value.category]; done) | rfl
def Q7 (Z : State) (x1 : Int32) (x2 : Int32) (x3 : Int32) (x4 : Int32) (x5 : Int32) (x6 : Int32) (h0 : Heap) (n0 : Nat) (v : Option Value) (h : Heap) (L : List Loc) : Prop := v = some (.int (own_w x1 x2 x3 x4 x5 x6)) ∧ Fr n0 L ∧ h = h0
set_option maxRecDepth 65536 in
set_option maxHeartbeats 40000000 in
theorem rm7 (l : Launch) (Z : State) (a0 : Array Value) (hw : ∀ d ∈ tables_1, d.before a0 Z = true) (x1 : Int32) (x2 : Int32) (x3 : Int32) (x4 : Int32) (x5 : Int32) (x6 : Int32) (h0 : Heap) (n0 : Nat) (Zs : n0 ≤ h0.size)  :
    Con l Z (⟨"com/example/tundra_ascent/tundraascent/rules/StrictlyMostCountPinLaw", "wins", "(ZIZIZI)Z"⟩ : MethodName) method_2_code 6 (some .boolean) ({ frames := 0, cells := 0, slots := 0, locals := 0 } : Room) #[(.int x1), (.int x2), (.int x3), (.int x4), (.int x5), (.int x6)] h0 (Q7 Z x1 x2 x3 x4 x5 x6 h0 n0) := by
  refine Con.intro (plainFor_of_name pn2) (fun m => ef_7 m x1 x2 x3 x4 x5 x6) ?_
  intro p e s m below meth c s₁ hx hby hml0 hZ hown hnm hret hlk X0 e0
  have hml : c.maxLocals = 6 := hml0
  have N0 := Fr.nil n0
  have Kp : Keep h0 h0 [] := Keep.refl h0 _
  show Go _ _ _ _ _ _ _ (s₁.setTop (mkF m 0 #[.val (.int x1), .val (.int x2), .val (.int x3), .val (.int x4), .val (.int x5), .val (.int x6)] []))
  refine Go.of (fun _ q => XS.iloadN X0.here hx rfl (hb hby d7_0) rfl q) ?_
  show Go _ _ _ _ _ _ _ (s₁.setTop (mkF m 1 #[.val (.int x1), .val (.int x2), .val (.int x3), .val (.int x4), .val (.int x5), .val (.int x6)] [(.int x1)]))
  by_cases c1 : x1 = (0 : Int32)
  · refine Go.of (fun _ q => XS.ifYes X0.here hx rfl (pc0 := 1) (pc' := 32) rfl (hb hby d7_1) rfl ((if0 _ _).trans (teq c1).1) (by decide) (by decide) q) ?_
    show Go _ _ _ _ _ _ _ (s₁.setTop (mkF m 32 #[.val (.int x1), .val (.int x2), .val (.int x3), .val (.int x4), .val (.int x5), .val (.int x6)] []))
    refine Go.of (fun _ q => XS.iconst X0.here hx rfl (hb hby d7_32) q) ?_
    show Go _ _ _ _ _ _ _ (s₁.setTop (mkF m 33 #[.val (.int x1), .val (.int x2), .val (.int x3), .val (.int x4), .val (.int x5), .val (.int x6)] [(.int (0 : Int32))]))
    refine Go.retN X0 hx hlk (t := .boolean) hret (by simp) (hb hby d7_33) rfl (by decide) (by decide) ?_
    rw [e0]
    exact ⟨(by unfold own_w; rw [if_pos c1]), N0, rfl⟩
  · refine Go.of (fun _ q => XS.ifNo X0.here hx rfl (hb hby d7_1) rfl ((if0 _ _).trans (feq c1).1) q) ?_
    show Go _ _ _ _ _ _ _ (s₁.setTop (mkF m 4 #[.val (.int x1), .val (.int x2), .val (.int x3), .val (.int x4), .val (.int x5), .val (.int x6)] []))
    refine Go.of (fun _ q => XS.iloadN X0.here hx rfl (hb hby d7_4) rfl q) ?_
    show Go _ _ _ _ _ _ _ (s₁.setTop (mkF m 5 #[.val (.int x1), .val (.int x2), .val (.int x3), .val (.int x4), .val (.int x5), .val (.int x6)] [(.int x2)]))
    by_cases c5 : (0 : Int32) < x2
    · refine Go.of (fun _ q => XS.ifNo X0.here hx rfl (hb hby d7_5) rfl ((if0 _ _).trans (tlt c5).2.2.2) q) ?_
      show Go _ _ _ _ _ _ _ (s₁.setTop (mkF m 8 #[.val (.int x1), .val (.int x2), .val (.int x3), .val (.int x4), .val (.int x5), .val (.int x6)] []))
      refine Go.of (fun _ q => XS.iloadN X0.here hx rfl (hb hby d7_8) rfl q) ?_
      show Go _ _ _ _ _ _ _ (s₁.setTop (mkF m 9 #[.val (.int x1), .val (.int x2), .val (.int x3), .val (.int x4), .val (.int x5), .val (.int x6)] [(.int x3)]))
      by_cases c9 : x3 = (0 : Int32)
      · refine Go.of (fun _ q => XS.ifYes X0.here hx rfl (pc0 := 9) (pc' := 17) rfl (hb hby d7_9) rfl ((if0 _ _).trans (teq c9).1) (by decide) (by decide) q) ?_
        show Go _ _ _ _ _ _ _ (s₁.setTop (mkF m 17 #[.val (.int x1), .val (.int x2), .val (.int x3), .val (.int x4), .val (.int x5), .val (.int x6)] []))
        refine Go.of (fun _ q => XS.iload X0.here hx rfl (hb hby d7_17) rfl q) ?_
        show Go _ _ _ _ _ _ _ (s₁.setTop (mkF m 19 #[.val (.int x1), .val (.int x2), .val (.int x3), .val (.int x4), .val (.int x5), .val (.int x6)] [(.int x5)]))
        by_cases c19 : x5 = (0 : Int32)
        · refine Go.of (fun _ q => XS.ifYes X0.here hx rfl (pc0 := 19) (pc' := 28) rfl (hb hby d7_19) rfl ((if0 _ _).trans (teq c19).1) (by decide) (by decide) q) ?_
          show Go _ _ _ _ _ _ _ (s₁.setTop (mkF m 28 #[.val (.int x1), .val (.int x2), .val (.int x3), .val (.int x4), .val (.int x5), .val (.int x6)] []))
          refine Go.of (fun _ q => XS.iconst X0.here hx rfl (hb hby d7_28) q) ?_
          show Go _ _ _ _ _ _ _ (s₁.setTop (mkF m 29 #[.val (.int x1), .val (.int x2), .val (.int x3), .val (.int x4), .val (.int x5), .val (.int x6)] [(.int (1 : Int32))]))
          refine Go.of (fun _ q => XS.goto X0.here hx rfl (pc0 := 29) (pc' := 33) rfl (hb hby d7_29) (by decide) (by decide) q) ?_
          show Go _ _ _ _ _ _ _ (s₁.setTop (mkF m 33 #[.val (.int x1), .val (.int x2), .val (.int x3), .val (.int x4), .val (.int x5), .val (.int x6)] [(.int (1 : Int32))]))
          refine Go.retN X0 hx hlk (t := .boolean) hret (by simp) (hb hby d7_33) rfl (by decide) (by decide) ?_
          rw [e0]
          exact ⟨(by unfold own_w; rw [if_neg c1, if_pos c5, if_pos c9, if_pos c19]), N0, rfl⟩
        · refine Go.of (fun _ q => XS.ifNo X0.here hx rfl (hb hby d7_19) rfl ((if0 _ _).trans (feq c19).1) q) ?_
          show Go _ _ _ _ _ _ _ (s₁.setTop (mkF m 22 #[.val (.int x1), .val (.int x2), .val (.int x3), .val (.int x4), .val (.int x5), .val (.int x6)] []))
          refine Go.of (fun _ q => XS.iload X0.here hx rfl (hb hby d7_22) rfl q) ?_
          show Go _ _ _ _ _ _ _ (s₁.setTop (mkF m 24 #[.val (.int x1), .val (.int x2), .val (.int x3), .val (.int x4), .val (.int x5), .val (.int x6)] [(.int x6)]))
          refine Go.of (fun _ q => XS.iloadN X0.here hx rfl (hb hby d7_24) rfl q) ?_
          show Go _ _ _ _ _ _ _ (s₁.setTop (mkF m 25 #[.val (.int x1), .val (.int x2), .val (.int x3), .val (.int x4), .val (.int x5), .val (.int x6)] [(.int x2), (.int x6)]))
          by_cases c25 : x6 < x2
          · refine Go.of (fun _ q => XS.icmpNo X0.here hx rfl (hb hby d7_25) rfl (tlt c25).2.1 q) ?_
            show Go _ _ _ _ _ _ _ (s₁.setTop (mkF m 28 #[.val (.int x1), .val (.int x2), .val (.int x3), .val (.int x4), .val (.int x5), .val (.int x6)] []))
            refine Go.of (fun _ q => XS.iconst X0.here hx rfl (hb hby d7_28) q) ?_
            show Go _ _ _ _ _ _ _ (s₁.setTop (mkF m 29 #[.val (.int x1), .val (.int x2), .val (.int x3), .val (.int x4), .val (.int x5), .val (.int x6)] [(.int (1 : Int32))]))
            refine Go.of (fun _ q => XS.goto X0.here hx rfl (pc0 := 29) (pc' := 33) rfl (hb hby d7_29) (by decide) (by decide) q) ?_
            show Go _ _ _ _ _ _ _ (s₁.setTop (mkF m 33 #[.val (.int x1), .val (.int x2), .val (.int x3), .val (.int x4), .val (.int x5), .val (.int x6)] [(.int (1 : Int32))]))
            refine Go.retN X0 hx hlk (t := .boolean) hret (by simp) (hb hby d7_33) rfl (by decide) (by decide) ?_
            rw [e0]
            exact ⟨(by unfold own_w; rw [if_neg c1, if_pos c5, if_pos c9, if_neg c19, if_pos c25]), N0, rfl⟩
          · refine Go.of (fun _ q => XS.icmpYes X0.here hx rfl (pc0 := 25) (pc' := 32) rfl (hb hby d7_25) rfl (flt c25).2.1 (by decide) (by decide) q) ?_
            show Go _ _ _ _ _ _ _ (s₁.setTop (mkF m 32 #[.val (.int x1), .val (.int x2), .val (.int x3), .val (.int x4), .val (.int x5), .val (.int x6)] []))
            refine Go.of (fun _ q => XS.iconst X0.here hx rfl (hb hby d7_32) q) ?_
            show Go _ _ _ _ _ _ _ (s₁.setTop (mkF m 33 #[.val (.int x1), .val (.int x2), .val (.int x3), .val (.int x4), .val (.int x5), .val (.int x6)] [(.int (0 : Int32))]))
            refine Go.retN X0 hx hlk (t := .boolean) hret (by simp) (hb hby d7_33) rfl (by decide) (by decide) ?_
            rw [e0]
            exact ⟨(by unfold own_w; rw [if_neg c1, if_pos c5, if_pos c9, if_neg c19, if_neg c25]), N0, rfl⟩
      · refine Go.of (fun _ q => XS.ifNo X0.here hx rfl (hb hby d7_9) rfl ((if0 _ _).trans (feq c9).1) q) ?_
        show Go _ _ _ _ _ _ _ (s₁.setTop (mkF m 12 #[.val (.int x1), .val (.int x2), .val (.int x3), .val (.int x4), .val (.int x5), .val (.int x6)] []))
        refine Go.of (fun _ q => XS.iloadN X0.here hx rfl (hb hby d7_12) rfl q) ?_
        show Go _ _ _ _ _ _ _ (s₁.setTop (mkF m 13 #[.val (.int x1), .val (.int x2), .val (.int x3), .val (.int x4), .val (.int x5), .val (.int x6)] [(.int x4)]))
        refine Go.of (fun _ q => XS.iloadN X0.here hx rfl (hb hby d7_13) rfl q) ?_
        show Go _ _ _ _ _ _ _ (s₁.setTop (mkF m 14 #[.val (.int x1), .val (.int x2), .val (.int x3), .val (.int x4), .val (.int x5), .val (.int x6)] [(.int x2), (.int x4)]))
        by_cases c14 : x4 < x2
        · refine Go.of (fun _ q => XS.icmpNo X0.here hx rfl (hb hby d7_14) rfl (tlt c14).2.1 q) ?_
          show Go _ _ _ _ _ _ _ (s₁.setTop (mkF m 17 #[.val (.int x1), .val (.int x2), .val (.int x3), .val (.int x4), .val (.int x5), .val (.int x6)] []))
          refine Go.of (fun _ q => XS.iload X0.here hx rfl (hb hby d7_17) rfl q) ?_
          show Go _ _ _ _ _ _ _ (s₁.setTop (mkF m 19 #[.val (.int x1), .val (.int x2), .val (.int x3), .val (.int x4), .val (.int x5), .val (.int x6)] [(.int x5)]))
          by_cases c19 : x5 = (0 : Int32)
          · refine Go.of (fun _ q => XS.ifYes X0.here hx rfl (pc0 := 19) (pc' := 28) rfl (hb hby d7_19) rfl ((if0 _ _).trans (teq c19).1) (by decide) (by decide) q) ?_
            show Go _ _ _ _ _ _ _ (s₁.setTop (mkF m 28 #[.val (.int x1), .val (.int x2), .val (.int x3), .val (.int x4), .val (.int x5), .val (.int x6)] []))
            refine Go.of (fun _ q => XS.iconst X0.here hx rfl (hb hby d7_28) q) ?_
            show Go _ _ _ _ _ _ _ (s₁.setTop (mkF m 29 #[.val (.int x1), .val (.int x2), .val (.int x3), .val (.int x4), .val (.int x5), .val (.int x6)] [(.int (1 : Int32))]))
            refine Go.of (fun _ q => XS.goto X0.here hx rfl (pc0 := 29) (pc' := 33) rfl (hb hby d7_29) (by decide) (by decide) q) ?_
            show Go _ _ _ _ _ _ _ (s₁.setTop (mkF m 33 #[.val (.int x1), .val (.int x2), .val (.int x3), .val (.int x4), .val (.int x5), .val (.int x6)] [(.int (1 : Int32))]))
            refine Go.retN X0 hx hlk (t := .boolean) hret (by simp) (hb hby d7_33) rfl (by decide) (by decide) ?_
            rw [e0]
            exact ⟨(by unfold own_w; rw [if_neg c1, if_pos c5, if_neg c9, if_pos c14, if_pos c19]), N0, rfl⟩
          · refine Go.of (fun _ q => XS.ifNo X0.here hx rfl (hb hby d7_19) rfl ((if0 _ _).trans (feq c19).1) q) ?_
            show Go _ _ _ _ _ _ _ (s₁.setTop (mkF m 22 #[.val (.int x1), .val (.int x2), .val (.int x3), .val (.int x4), .val (.int x5), .val (.int x6)] []))
            refine Go.of (fun _ q => XS.iload X0.here hx rfl (hb hby d7_22) rfl q) ?_
            show Go _ _ _ _ _ _ _ (s₁.setTop (mkF m 24 #[.val (.int x1), .val (.int x2), .val (.int x3), .val (.int x4), .val (.int x5), .val (.int x6)] [(.int x6)]))
            refine Go.of (fun _ q => XS.iloadN X0.here hx rfl (hb hby d7_24) rfl q) ?_
            show Go _ _ _ _ _ _ _ (s₁.setTop (mkF m 25 #[.val (.int x1), .val (.int x2), .val (.int x3), .val (.int x4), .val (.int x5), .val (.int x6)] [(.int x2), (.int x6)]))
            by_cases c25 : x6 < x2
            · refine Go.of (fun _ q => XS.icmpNo X0.here hx rfl (hb hby d7_25) rfl (tlt c25).2.1 q) ?_
              show Go _ _ _ _ _ _ _ (s₁.setTop (mkF m 28 #[.val (.int x1), .val (.int x2), .val (.int x3), .val (.int x4), .val (.int x5), .val (.int x6)] []))
              refine Go.of (fun _ q => XS.iconst X0.here hx rfl (hb hby d7_28) q) ?_
              show Go _ _ _ _ _ _ _ (s₁.setTop (mkF m 29 #[.val (.int x1), .val (.int x2), .val (.int x3), .val (.int x4), .val (.int x5), .val (.int x6)] [(.int (1 : Int32))]))
              refine Go.of (fun _ q => XS.goto X0.here hx rfl (pc0 := 29) (pc' := 33) rfl (hb hby d7_29) (by decide) (by decide) q) ?_
              show Go _ _ _ _ _ _ _ (s₁.setTop (mkF m 33 #[.val (.int x1), .val (.int x2), .val (.int x3), .val (.int x4), .val (.int x5), .val (.int x6)] [(.int (1 : Int32))]))
              refine Go.retN X0 hx hlk (t := .boolean) hret (by simp) (hb hby d7_33) rfl (by decide) (by decide) ?_
              rw [e0]
              exact ⟨(by unfold own_w; rw [if_neg c1, if_pos c5, if_neg c9, if_pos c14, if_neg c19, if_pos c25]), N0, rfl⟩
            · refine Go.of (fun _ q => XS.icmpYes X0.here hx rfl (pc0 := 25) (pc' := 32) rfl (hb hby d7_25) rfl (flt c25).2.1 (by decide) (by decide) q) ?_
              show Go _ _ _ _ _ _ _ (s₁.setTop (mkF m 32 #[.val (.int x1), .val (.int x2), .val (.int x3), .val (.int x4), .val (.int x5), .val (.int x6)] []))
              refine Go.of (fun _ q => XS.iconst X0.here hx rfl (hb hby d7_32) q) ?_
              show Go _ _ _ _ _ _ _ (s₁.setTop (mkF m 33 #[.val (.int x1), .val (.int x2), .val (.int x3), .val (.int x4), .val (.int x5), .val (.int x6)] [(.int (0 : Int32))]))
              refine Go.retN X0 hx hlk (t := .boolean) hret (by simp) (hb hby d7_33) rfl (by decide) (by decide) ?_
              rw [e0]
              exact ⟨(by unfold own_w; rw [if_neg c1, if_pos c5, if_neg c9, if_pos c14, if_neg c19, if_neg c25]), N0, rfl⟩
        · refine Go.of (fun _ q => XS.icmpYes X0.here hx rfl (pc0 := 14) (pc' := 32) rfl (hb hby d7_14) rfl (flt c14).2.1 (by decide) (by decide) q) ?_
          show Go _ _ _ _ _ _ _ (s₁.setTop (mkF m 32 #[.val (.int x1), .val (.int x2), .val (.int x3), .val (.int x4), .val (.int x5), .val (.int x6)] []))
          refine Go.of (fun _ q => XS.iconst X0.here hx rfl (hb hby d7_32) q) ?_
          show Go _ _ _ _ _ _ _ (s₁.setTop (mkF m 33 #[.val (.int x1), .val (.int x2), .val (.int x3), .val (.int x4), .val (.int x5), .val (.int x6)] [(.int (0 : Int32))]))
          refine Go.retN X0 hx hlk (t := .boolean) hret (by simp) (hb hby d7_33) rfl (by decide) (by decide) ?_
          rw [e0]
          exact ⟨(by unfold own_w; rw [if_neg c1, if_pos c5, if_neg c9, if_neg c14]), N0, rfl⟩
    · refine Go.of (fun _ q => XS.ifYes X0.here hx rfl (pc0 := 5) (pc' := 32) rfl (hb hby d7_5) rfl ((if0 _ _).trans (flt c5).2.2.2) (by decide) (by decide) q) ?_
      show Go _ _ _ _ _ _ _ (s₁.setTop (mkF m 32 #[.val (.int x1), .val (.int x2), .val (.int x3), .val (.int x4), .val (.int x5), .val (.int x6)] []))
      refine Go.of (fun _ q => XS.iconst X0.here hx rfl (hb hby d7_32) q) ?_
      show Go _ _ _ _ _ _ _ (s₁.setTop (mkF m 33 #[.val (.int x1), .val (.int x2), .val (.int x3), .val (.int x4), .val (.int x5), .val (.int x6)] [(.int (0 : Int32))]))
      refine Go.retN X0 hx hlk (t := .boolean) hret (by simp) (hb hby d7_33) rfl (by decide) (by decide) ?_
      rw [e0]
      exact ⟨(by unfold own_w; rw [if_neg c1, if_neg c5]), N0, rfl⟩
theorem pd3 : parseMethodDescriptor "()V" = some ⟨[], none⟩ := by decide +kernel
theorem pd4 : parseMethodDescriptor "(Ljava/lang/Object;)Ljava/lang/Object;" = some ⟨[(.object "java/lang/Object")], some (.object "java/lang/Object")⟩ := by decide +kernel
theorem pd5 : parseMethodDescriptor "(ZIZIZI)Z" = some ⟨[.boolean, .int, .boolean, .int, .boolean, .int], some .boolean⟩ := by decide +kernel
theorem pd6 : parseMethodDescriptor "(Lcom/example/tundra_ascent/tundraascent/rules/Animal;I)V" = some ⟨[(.object "com/example/tundra_ascent/tundraascent/rules/Animal"), .int], none⟩ := by decide +kernel
theorem ef_0 (m : MethodId) (x1 : Int32) (x2 : Int32) (x3 : Int32) (x4 : Int32) : entryFrame m #[(.int x1), (.int x2), (.int x3), (.int x4)] maxLocals = mkF m 0 #[.val (.int x1), .val (.int x2), .val (.int x3), .val (.int x4), .unset, .unset, .unset, .unset, .unset, .unset, .unset, .unset, .unset, .unset, .unset, .unset] [] := by first | (simp [entryFrame, mkF, argsToLocals, Value.category, maxLocals]; done) | rfl
def Q0 (Z : State) (x1 : Int32) (x2 : Int32) (x3 : Int32) (x4 : Int32) (o0 : Addr) (o1 : Addr) (o2 : Addr) (o3 : Addr) (o4 : Addr) (o5 : Addr) (em : Addr) (h0 : Heap) (n0 : Nat) (v : Option Value) (h : Heap) (L : List Loc) : Prop := v = some (.int (1 : Int32)) ∧ Fr n0 L
set_option maxRecDepth 65536 in
set_option maxHeartbeats 40000000 in
theorem rm0 (l : Launch) (Z : State) (a0 : Array Value) (hw : ∀ d ∈ tables_1, d.before a0 Z = true) (x1 : Int32) (x2 : Int32) (x3 : Int32) (x4 : Int32) (o0 : Addr) (o1 : Addr) (o2 : Addr) (o3 : Addr) (o4 : Addr) (o5 : Addr) (em : Addr) (h0 : Heap) (n0 : Nat) (Zs : n0 ≤ h0.size) (Od : Old Z n0 h0) (S_0 : Sta Z Z.heap "com/example/tundra_ascent/tundraascent/rules/Animal" "MAMMALS" "Lcom/example/tundra_ascent/tundraascent/rules/Animal;" (.ref o0)) (S_1 : Sta Z Z.heap "com/example/tundra_ascent/tundraascent/rules/Animal" "REPTILES" "Lcom/example/tundra_ascent/tundraascent/rules/Animal;" (.ref o1)) (S_2 : Sta Z Z.heap "com/example/tundra_ascent/tundraascent/rules/Animal" "BIRDS" "Lcom/example/tundra_ascent/tundraascent/rules/Animal;" (.ref o2)) (S_3 : Sta Z Z.heap "com/example/tundra_ascent/tundraascent/rules/Animal" "AMPHIBIANS" "Lcom/example/tundra_ascent/tundraascent/rules/Animal;" (.ref o3)) (S_4 : Sta Z Z.heap "com/example/tundra_ascent/tundraascent/rules/Animal" "ARACHNIDS" "Lcom/example/tundra_ascent/tundraascent/rules/Animal;" (.ref o4)) (S_5 : Sta Z Z.heap "com/example/tundra_ascent/tundraascent/rules/Animal" "INSECTS" "Lcom/example/tundra_ascent/tundraascent/rules/Animal;" (.ref o5)) (E_0 : Exa Z Z.heap o0 "com/example/tundra_ascent/tundraascent/rules/Animal") (E_1 : Exa Z Z.heap o1 "com/example/tundra_ascent/tundraascent/rules/Animal") (E_2 : Exa Z Z.heap o2 "com/example/tundra_ascent/tundraascent/rules/Animal") (E_3 : Exa Z Z.heap o3 "com/example/tundra_ascent/tundraascent/rules/Animal") (E_4 : Exa Z Z.heap o4 "com/example/tundra_ascent/tundraascent/rules/Animal") (E_5 : Exa Z Z.heap o5 "com/example/tundra_ascent/tundraascent/rules/Animal") (Sem : Sta Z Z.heap "java/util/Optional" "EMPTY" "Ljava/util/Optional;" (.ref em)) (Eem : Exa Z Z.heap em "java/util/Optional") (Fem : Fld Z Z.heap em "java/util/Optional" "value" "Ljava/lang/Object;" .null) :
    Con l Z x code maxLocals ret room_1 #[(.int x1), (.int x2), (.int x3), (.int x4)] h0 (Q0 Z x1 x2 x3 x4 o0 o1 o2 o3 o4 o5 em h0 n0) := by
  refine Con.intro (plainFor_of_name pn2) (fun m => ef_0 m x1 x2 x3 x4) ?_
  intro p e s m below meth c s₁ hx hby hml0 hZ hown hnm hret hlk X0 e0
  have hml : c.maxLocals = 16 := hml0
  have N0 := Fr.nil n0
  have Kp : Keep h0 h0 [] := Keep.refl h0 _
  show Go _ _ _ _ _ _ _ (s₁.setTop (mkF m 0 #[.val (.int x1), .val (.int x2), .val (.int x3), .val (.int x4), .unset, .unset, .unset, .unset, .unset, .unset, .unset, .unset, .unset, .unset, .unset, .unset] []))
  refine Go.of (fun _ q => XS.bipush X0.here hx rfl (hb hby at_0) q) ?_
  show Go _ _ _ _ _ _ _ (s₁.setTop (mkF m 2 #[.val (.int x1), .val (.int x2), .val (.int x3), .val (.int x4), .unset, .unset, .unset, .unset, .unset, .unset, .unset, .unset, .unset, .unset, .unset, .unset] [(.int (6 : Int32))]))
  obtain ⟨T1, h1, k1, X1, e1, E1, A1, B1, O1, st1⟩ := newRE X0 hx hZ hown (hw _ (List.mem_of_getElem? (i := 0) rfl)) (hw _ (List.mem_of_getElem? (i := 1) rfl)) e0 (g := (mkF m 2 #[.val (.int x1), .val (.int x2), .val (.int x3), .val (.int x4), .unset, .unset, .unset, .unset, .unset, .unset, .unset, .unset, .unset, .unset, .unset, .unset] [(.int (6 : Int32))])) rfl (hb hby at_2) rfl (by decide) (cap := 6) (by decide) (by decide) (by decide) (by decide) (ad := "[Lcom/example/tundra_ascent/tundraascent/rules/Animal;") (by decide)
  obtain ⟨al, g1⟩ : ∃ z, z = h0.size := ⟨_, rfl⟩
  rw [← g1] at A1 B1 st1
  refine Go.of st1 ?_
  have g_al : n0 ≤ al := Nat.le_trans Zs (Nat.le_of_eq g1.symm)
  have sz_al : h0.size ≤ al := Nat.le_trans Kp.1 (Nat.le_of_eq g1.symm)
  have Zs := Nat.le_trans Zs E1.1
  have Kp := Kp.ext E1
  have Od := Od.ext E1
  have E_al := B1
  have A_al : AF Z h1 al k1 (.object "com/example/tundra_ascent/tundraascent/rules/Animal") 6 (fun _ => .null) := AF.new A1 (by decide) rfl rfl
  show Go _ _ _ _ _ _ _ (T1.setTop (mkF m 5 #[.val (.int x1), .val (.int x2), .val (.int x3), .val (.int x4), .unset, .unset, .unset, .unset, .unset, .unset, .unset, .unset, .unset, .unset, .unset, .unset] [(.ref al)]))
  refine Go.of (fun _ q => XS.dup X1.here hx rfl (hb hby at_5) rfl rfl q) ?_
  show Go _ _ _ _ _ _ _ (T1.setTop (mkF m 6 #[.val (.int x1), .val (.int x2), .val (.int x3), .val (.int x4), .unset, .unset, .unset, .unset, .unset, .unset, .unset, .unset, .unset, .unset, .unset, .unset] [(.ref al), (.ref al)]))
  refine Go.of (fun _ q => XS.iconst X1.here hx rfl (hb hby at_6) q) ?_
  show Go _ _ _ _ _ _ _ (T1.setTop (mkF m 7 #[.val (.int x1), .val (.int x2), .val (.int x3), .val (.int x4), .unset, .unset, .unset, .unset, .unset, .unset, .unset, .unset, .unset, .unset, .unset, .unset] [(.int (0 : Int32)), (.ref al), (.ref al)]))
  obtain ⟨T2, X2, e2, st2⟩ := getS2 X1 hx hZ hown (host := "") (Or.inl (hw _ (List.mem_of_getElem? (i := 2) rfl))) Via.refl e1 (Sta.ext Od.2 S_0) (g := (mkF m 7 #[.val (.int x1), .val (.int x2), .val (.int x3), .val (.int x4), .unset, .unset, .unset, .unset, .unset, .unset, .unset, .unset, .unset, .unset, .unset, .unset] [(.int (0 : Int32)), (.ref al), (.ref al)])) rfl (hb hby at_7)
  refine Go.of st2 ?_
  show Go _ _ _ _ _ _ _ (T2.setTop (mkF m 10 #[.val (.int x1), .val (.int x2), .val (.int x3), .val (.int x4), .unset, .unset, .unset, .unset, .unset, .unset, .unset, .unset, .unset, .unset, .unset, .unset] [(.ref o0), (.int (0 : Int32)), (.ref al), (.ref al)]))
  obtain ⟨T3, h3, X3, e3, W3, A3', st3⟩ := AF.aastore A_al rfl X2 hx hZ e2 (i := 0) ⟨rfl, by decide, by decide⟩ (AF.sto A_al O1 (Ins.self (Exa.ext Od.2 E_0))) (g := (mkF m 10 #[.val (.int x1), .val (.int x2), .val (.int x3), .val (.int x4), .unset, .unset, .unset, .unset, .unset, .unset, .unset, .unset, .unset, .unset, .unset, .unset] [(.ref o0), (.int (0 : Int32)), (.ref al), (.ref al)])) rfl rfl (hb hby at_10)
  refine Go.of st3 ?_
  have Zs := Nat.le_trans Zs (Nat.le_of_eq W3.size.symm)
  have Kp := Kp.wr W3 (Or.inr sz_al)
  have Od := Od.wr W3 g_al
  have E_al := E_al.wr W3
  have A_al : AF Z h3 al k1 (.object "com/example/tundra_ascent/tundraascent/rules/Animal") 6 (updV (fun _ => .null) 0 (.ref o0)) := A3'
  have N3 := Fr.snoc X3 N0 g_al
  show Go _ _ _ _ _ _ _ (T3.setTop (mkF m 11 #[.val (.int x1), .val (.int x2), .val (.int x3), .val (.int x4), .unset, .unset, .unset, .unset, .unset, .unset, .unset, .unset, .unset, .unset, .unset, .unset] [(.ref al)]))
  refine Go.of (fun _ q => XS.dup X3.here hx rfl (hb hby at_11) rfl rfl q) ?_
  show Go _ _ _ _ _ _ _ (T3.setTop (mkF m 12 #[.val (.int x1), .val (.int x2), .val (.int x3), .val (.int x4), .unset, .unset, .unset, .unset, .unset, .unset, .unset, .unset, .unset, .unset, .unset, .unset] [(.ref al), (.ref al)]))
  refine Go.of (fun _ q => XS.iconst X3.here hx rfl (hb hby at_12) q) ?_
  show Go _ _ _ _ _ _ _ (T3.setTop (mkF m 13 #[.val (.int x1), .val (.int x2), .val (.int x3), .val (.int x4), .unset, .unset, .unset, .unset, .unset, .unset, .unset, .unset, .unset, .unset, .unset, .unset] [(.int (1 : Int32)), (.ref al), (.ref al)]))
  obtain ⟨T4, X4, e4, st4⟩ := getS2 X3 hx hZ hown (host := "") (Or.inl (hw _ (List.mem_of_getElem? (i := 6) rfl))) Via.refl e3 (Sta.ext Od.2 S_1) (g := (mkF m 13 #[.val (.int x1), .val (.int x2), .val (.int x3), .val (.int x4), .unset, .unset, .unset, .unset, .unset, .unset, .unset, .unset, .unset, .unset, .unset, .unset] [(.int (1 : Int32)), (.ref al), (.ref al)])) rfl (hb hby at_13)
  refine Go.of st4 ?_
  show Go _ _ _ _ _ _ _ (T4.setTop (mkF m 16 #[.val (.int x1), .val (.int x2), .val (.int x3), .val (.int x4), .unset, .unset, .unset, .unset, .unset, .unset, .unset, .unset, .unset, .unset, .unset, .unset] [(.ref o1), (.int (1 : Int32)), (.ref al), (.ref al)]))
  obtain ⟨T5, h5, X5, e5, W5, A5', st5⟩ := AF.aastore A_al rfl X4 hx hZ e4 (i := 1) ⟨rfl, by decide, by decide⟩ (AF.sto A_al O1 (Ins.self (Exa.ext Od.2 E_1))) (g := (mkF m 16 #[.val (.int x1), .val (.int x2), .val (.int x3), .val (.int x4), .unset, .unset, .unset, .unset, .unset, .unset, .unset, .unset, .unset, .unset, .unset, .unset] [(.ref o1), (.int (1 : Int32)), (.ref al), (.ref al)])) rfl rfl (hb hby at_16)
  refine Go.of st5 ?_
  have Zs := Nat.le_trans Zs (Nat.le_of_eq W5.size.symm)
  have Kp := Kp.wr W5 (Or.inr sz_al)
  have Od := Od.wr W5 g_al
  have E_al := E_al.wr W5
  have A_al : AF Z h5 al k1 (.object "com/example/tundra_ascent/tundraascent/rules/Animal") 6 (updV (updV (fun _ => .null) 0 (.ref o0)) 1 (.ref o1)) := A5'
  have N5 := Fr.snoc X5 N3 g_al
  show Go _ _ _ _ _ _ _ (T5.setTop (mkF m 17 #[.val (.int x1), .val (.int x2), .val (.int x3), .val (.int x4), .unset, .unset, .unset, .unset, .unset, .unset, .unset, .unset, .unset, .unset, .unset, .unset] [(.ref al)]))
  refine Go.of (fun _ q => XS.dup X5.here hx rfl (hb hby at_17) rfl rfl q) ?_
  show Go _ _ _ _ _ _ _ (T5.setTop (mkF m 18 #[.val (.int x1), .val (.int x2), .val (.int x3), .val (.int x4), .unset, .unset, .unset, .unset, .unset, .unset, .unset, .unset, .unset, .unset, .unset, .unset] [(.ref al), (.ref al)]))
  refine Go.of (fun _ q => XS.iconst X5.here hx rfl (hb hby at_18) q) ?_
  show Go _ _ _ _ _ _ _ (T5.setTop (mkF m 19 #[.val (.int x1), .val (.int x2), .val (.int x3), .val (.int x4), .unset, .unset, .unset, .unset, .unset, .unset, .unset, .unset, .unset, .unset, .unset, .unset] [(.int (2 : Int32)), (.ref al), (.ref al)]))
  obtain ⟨T6, X6, e6, st6⟩ := getS2 X5 hx hZ hown (host := "") (Or.inl (hw _ (List.mem_of_getElem? (i := 8) rfl))) Via.refl e5 (Sta.ext Od.2 S_2) (g := (mkF m 19 #[.val (.int x1), .val (.int x2), .val (.int x3), .val (.int x4), .unset, .unset, .unset, .unset, .unset, .unset, .unset, .unset, .unset, .unset, .unset, .unset] [(.int (2 : Int32)), (.ref al), (.ref al)])) rfl (hb hby at_19)
  refine Go.of st6 ?_
  show Go _ _ _ _ _ _ _ (T6.setTop (mkF m 22 #[.val (.int x1), .val (.int x2), .val (.int x3), .val (.int x4), .unset, .unset, .unset, .unset, .unset, .unset, .unset, .unset, .unset, .unset, .unset, .unset] [(.ref o2), (.int (2 : Int32)), (.ref al), (.ref al)]))
  obtain ⟨T7, h7, X7, e7, W7, A7', st7⟩ := AF.aastore A_al rfl X6 hx hZ e6 (i := 2) ⟨rfl, by decide, by decide⟩ (AF.sto A_al O1 (Ins.self (Exa.ext Od.2 E_2))) (g := (mkF m 22 #[.val (.int x1), .val (.int x2), .val (.int x3), .val (.int x4), .unset, .unset, .unset, .unset, .unset, .unset, .unset, .unset, .unset, .unset, .unset, .unset] [(.ref o2), (.int (2 : Int32)), (.ref al), (.ref al)])) rfl rfl (hb hby at_22)
  refine Go.of st7 ?_
  have Zs := Nat.le_trans Zs (Nat.le_of_eq W7.size.symm)
  have Kp := Kp.wr W7 (Or.inr sz_al)
  have Od := Od.wr W7 g_al
  have E_al := E_al.wr W7
  have A_al : AF Z h7 al k1 (.object "com/example/tundra_ascent/tundraascent/rules/Animal") 6 (updV (updV (updV (fun _ => .null) 0 (.ref o0)) 1 (.ref o1)) 2 (.ref o2)) := A7'
  have N7 := Fr.snoc X7 N5 g_al
  show Go _ _ _ _ _ _ _ (T7.setTop (mkF m 23 #[.val (.int x1), .val (.int x2), .val (.int x3), .val (.int x4), .unset, .unset, .unset, .unset, .unset, .unset, .unset, .unset, .unset, .unset, .unset, .unset] [(.ref al)]))
  refine Go.of (fun _ q => XS.dup X7.here hx rfl (hb hby at_23) rfl rfl q) ?_
  show Go _ _ _ _ _ _ _ (T7.setTop (mkF m 24 #[.val (.int x1), .val (.int x2), .val (.int x3), .val (.int x4), .unset, .unset, .unset, .unset, .unset, .unset, .unset, .unset, .unset, .unset, .unset, .unset] [(.ref al), (.ref al)]))
  refine Go.of (fun _ q => XS.iconst X7.here hx rfl (hb hby at_24) q) ?_
  show Go _ _ _ _ _ _ _ (T7.setTop (mkF m 25 #[.val (.int x1), .val (.int x2), .val (.int x3), .val (.int x4), .unset, .unset, .unset, .unset, .unset, .unset, .unset, .unset, .unset, .unset, .unset, .unset] [(.int (3 : Int32)), (.ref al), (.ref al)]))
  obtain ⟨T8, X8, e8, st8⟩ := getS2 X7 hx hZ hown (host := "") (Or.inl (hw _ (List.mem_of_getElem? (i := 10) rfl))) Via.refl e7 (Sta.ext Od.2 S_3) (g := (mkF m 25 #[.val (.int x1), .val (.int x2), .val (.int x3), .val (.int x4), .unset, .unset, .unset, .unset, .unset, .unset, .unset, .unset, .unset, .unset, .unset, .unset] [(.int (3 : Int32)), (.ref al), (.ref al)])) rfl (hb hby at_25)
  refine Go.of st8 ?_
  show Go _ _ _ _ _ _ _ (T8.setTop (mkF m 28 #[.val (.int x1), .val (.int x2), .val (.int x3), .val (.int x4), .unset, .unset, .unset, .unset, .unset, .unset, .unset, .unset, .unset, .unset, .unset, .unset] [(.ref o3), (.int (3 : Int32)), (.ref al), (.ref al)]))
  obtain ⟨T9, h9, X9, e9, W9, A9', st9⟩ := AF.aastore A_al rfl X8 hx hZ e8 (i := 3) ⟨rfl, by decide, by decide⟩ (AF.sto A_al O1 (Ins.self (Exa.ext Od.2 E_3))) (g := (mkF m 28 #[.val (.int x1), .val (.int x2), .val (.int x3), .val (.int x4), .unset, .unset, .unset, .unset, .unset, .unset, .unset, .unset, .unset, .unset, .unset, .unset] [(.ref o3), (.int (3 : Int32)), (.ref al), (.ref al)])) rfl rfl (hb hby at_28)
  refine Go.of st9 ?_
  have Zs := Nat.le_trans Zs (Nat.le_of_eq W9.size.symm)
  have Kp := Kp.wr W9 (Or.inr sz_al)
  have Od := Od.wr W9 g_al
  have E_al := E_al.wr W9
  have A_al : AF Z h9 al k1 (.object "com/example/tundra_ascent/tundraascent/rules/Animal") 6 (updV (updV (updV (updV (fun _ => .null) 0 (.ref o0)) 1 (.ref o1)) 2 (.ref o2)) 3 (.ref o3)) := A9'
  have N9 := Fr.snoc X9 N7 g_al
  show Go _ _ _ _ _ _ _ (T9.setTop (mkF m 29 #[.val (.int x1), .val (.int x2), .val (.int x3), .val (.int x4), .unset, .unset, .unset, .unset, .unset, .unset, .unset, .unset, .unset, .unset, .unset, .unset] [(.ref al)]))
  refine Go.of (fun _ q => XS.dup X9.here hx rfl (hb hby at_29) rfl rfl q) ?_
  show Go _ _ _ _ _ _ _ (T9.setTop (mkF m 30 #[.val (.int x1), .val (.int x2), .val (.int x3), .val (.int x4), .unset, .unset, .unset, .unset, .unset, .unset, .unset, .unset, .unset, .unset, .unset, .unset] [(.ref al), (.ref al)]))
  refine Go.of (fun _ q => XS.iconst X9.here hx rfl (hb hby at_30) q) ?_
  show Go _ _ _ _ _ _ _ (T9.setTop (mkF m 31 #[.val (.int x1), .val (.int x2), .val (.int x3), .val (.int x4), .unset, .unset, .unset, .unset, .unset, .unset, .unset, .unset, .unset, .unset, .unset, .unset] [(.int (4 : Int32)), (.ref al), (.ref al)]))
  obtain ⟨T10, X10, e10, st10⟩ := getS2 X9 hx hZ hown (host := "") (Or.inl (hw _ (List.mem_of_getElem? (i := 12) rfl))) Via.refl e9 (Sta.ext Od.2 S_4) (g := (mkF m 31 #[.val (.int x1), .val (.int x2), .val (.int x3), .val (.int x4), .unset, .unset, .unset, .unset, .unset, .unset, .unset, .unset, .unset, .unset, .unset, .unset] [(.int (4 : Int32)), (.ref al), (.ref al)])) rfl (hb hby at_31)
  refine Go.of st10 ?_
  show Go _ _ _ _ _ _ _ (T10.setTop (mkF m 34 #[.val (.int x1), .val (.int x2), .val (.int x3), .val (.int x4), .unset, .unset, .unset, .unset, .unset, .unset, .unset, .unset, .unset, .unset, .unset, .unset] [(.ref o4), (.int (4 : Int32)), (.ref al), (.ref al)]))
  obtain ⟨T11, h11, X11, e11, W11, A11', st11⟩ := AF.aastore A_al rfl X10 hx hZ e10 (i := 4) ⟨rfl, by decide, by decide⟩ (AF.sto A_al O1 (Ins.self (Exa.ext Od.2 E_4))) (g := (mkF m 34 #[.val (.int x1), .val (.int x2), .val (.int x3), .val (.int x4), .unset, .unset, .unset, .unset, .unset, .unset, .unset, .unset, .unset, .unset, .unset, .unset] [(.ref o4), (.int (4 : Int32)), (.ref al), (.ref al)])) rfl rfl (hb hby at_34)
  refine Go.of st11 ?_
  have Zs := Nat.le_trans Zs (Nat.le_of_eq W11.size.symm)
  have Kp := Kp.wr W11 (Or.inr sz_al)
  have Od := Od.wr W11 g_al
  have E_al := E_al.wr W11
  have A_al : AF Z h11 al k1 (.object "com/example/tundra_ascent/tundraascent/rules/Animal") 6 (updV (updV (updV (updV (updV (fun _ => .null) 0 (.ref o0)) 1 (.ref o1)) 2 (.ref o2)) 3 (.ref o3)) 4 (.ref o4)) := A11'
  have N11 := Fr.snoc X11 N9 g_al
  show Go _ _ _ _ _ _ _ (T11.setTop (mkF m 35 #[.val (.int x1), .val (.int x2), .val (.int x3), .val (.int x4), .unset, .unset, .unset, .unset, .unset, .unset, .unset, .unset, .unset, .unset, .unset, .unset] [(.ref al)]))
  refine Go.of (fun _ q => XS.dup X11.here hx rfl (hb hby at_35) rfl rfl q) ?_
  show Go _ _ _ _ _ _ _ (T11.setTop (mkF m 36 #[.val (.int x1), .val (.int x2), .val (.int x3), .val (.int x4), .unset, .unset, .unset, .unset, .unset, .unset, .unset, .unset, .unset, .unset, .unset, .unset] [(.ref al), (.ref al)]))
  refine Go.of (fun _ q => XS.iconst X11.here hx rfl (hb hby at_36) q) ?_
  show Go _ _ _ _ _ _ _ (T11.setTop (mkF m 37 #[.val (.int x1), .val (.int x2), .val (.int x3), .val (.int x4), .unset, .unset, .unset, .unset, .unset, .unset, .unset, .unset, .unset, .unset, .unset, .unset] [(.int (5 : Int32)), (.ref al), (.ref al)]))
  obtain ⟨T12, X12, e12, st12⟩ := getS2 X11 hx hZ hown (host := "") (Or.inl (hw _ (List.mem_of_getElem? (i := 14) rfl))) Via.refl e11 (Sta.ext Od.2 S_5) (g := (mkF m 37 #[.val (.int x1), .val (.int x2), .val (.int x3), .val (.int x4), .unset, .unset, .unset, .unset, .unset, .unset, .unset, .unset, .unset, .unset, .unset, .unset] [(.int (5 : Int32)), (.ref al), (.ref al)])) rfl (hb hby at_37)
  refine Go.of st12 ?_
  show Go _ _ _ _ _ _ _ (T12.setTop (mkF m 40 #[.val (.int x1), .val (.int x2), .val (.int x3), .val (.int x4), .unset, .unset, .unset, .unset, .unset, .unset, .unset, .unset, .unset, .unset, .unset, .unset] [(.ref o5), (.int (5 : Int32)), (.ref al), (.ref al)]))
  obtain ⟨T13, h13, X13, e13, W13, A13', st13⟩ := AF.aastore A_al rfl X12 hx hZ e12 (i := 5) ⟨rfl, by decide, by decide⟩ (AF.sto A_al O1 (Ins.self (Exa.ext Od.2 E_5))) (g := (mkF m 40 #[.val (.int x1), .val (.int x2), .val (.int x3), .val (.int x4), .unset, .unset, .unset, .unset, .unset, .unset, .unset, .unset, .unset, .unset, .unset, .unset] [(.ref o5), (.int (5 : Int32)), (.ref al), (.ref al)])) rfl rfl (hb hby at_40)
  refine Go.of st13 ?_
  have Zs := Nat.le_trans Zs (Nat.le_of_eq W13.size.symm)
  have Kp := Kp.wr W13 (Or.inr sz_al)
  have Od := Od.wr W13 g_al
  have E_al := E_al.wr W13
  have A_al : AF Z h13 al k1 (.object "com/example/tundra_ascent/tundraascent/rules/Animal") 6 (updV (updV (updV (updV (updV (updV (fun _ => .null) 0 (.ref o0)) 1 (.ref o1)) 2 (.ref o2)) 3 (.ref o3)) 4 (.ref o4)) 5 (.ref o5)) := A13'
  have N13 := Fr.snoc X13 N11 g_al
  show Go _ _ _ _ _ _ _ (T13.setTop (mkF m 41 #[.val (.int x1), .val (.int x2), .val (.int x3), .val (.int x4), .unset, .unset, .unset, .unset, .unset, .unset, .unset, .unset, .unset, .unset, .unset, .unset] [(.ref al)]))
  refine Go.of (fun _ q => XS.astore X13.here hx rfl (hb hby at_41) rfl rfl (l' := #[.val (.int x1), .val (.int x2), .val (.int x3), .val (.int x4), .val (.ref al), .unset, .unset, .unset, .unset, .unset, .unset, .unset, .unset, .unset, .unset, .unset]) rfl q) ?_
  show Go _ _ _ _ _ _ _ (T13.setTop (mkF m 43 #[.val (.int x1), .val (.int x2), .val (.int x3), .val (.int x4), .val (.ref al), .unset, .unset, .unset, .unset, .unset, .unset, .unset, .unset, .unset, .unset, .unset] []))
  refine Go.of (fun _ q => XS.iloadN X13.here hx rfl (hb hby at_43) rfl q) ?_
  show Go _ _ _ _ _ _ _ (T13.setTop (mkF m 44 #[.val (.int x1), .val (.int x2), .val (.int x3), .val (.int x4), .val (.ref al), .unset, .unset, .unset, .unset, .unset, .unset, .unset, .unset, .unset, .unset, .unset] [(.int x4)]))
  refine Go.of (fun _ q => XS.iconst X13.here hx rfl (hb hby at_44) q) ?_
  show Go _ _ _ _ _ _ _ (T13.setTop (mkF m 45 #[.val (.int x1), .val (.int x2), .val (.int x3), .val (.int x4), .val (.ref al), .unset, .unset, .unset, .unset, .unset, .unset, .unset, .unset, .unset, .unset, .unset] [(.int (3 : Int32)), (.int x4)]))
  refine Go.of (fun _ q => XS.iand X13.here hx rfl (hb hby at_45) rfl q) ?_
  rcases own_four x4 with q3 | q3 | q3 | q3
  · rw [q3]
    show Go _ _ _ _ _ _ _ (T13.setTop (mkF m 46 #[.val (.int x1), .val (.int x2), .val (.int x3), .val (.int x4), .val (.ref al), .unset, .unset, .unset, .unset, .unset, .unset, .unset, .unset, .unset, .unset, .unset] [(.int (0 : Int32))]))
    refine Go.of (fun _ q => XS.istore X13.here hx rfl (hb hby at_46) rfl (l' := #[.val (.int x1), .val (.int x2), .val (.int x3), .val (.int x4), .val (.ref al), .val (.int (0 : Int32)), .unset, .unset, .unset, .unset, .unset, .unset, .unset, .unset, .unset, .unset]) rfl q) ?_
    show Go _ _ _ _ _ _ _ (T13.setTop (mkF m 48 #[.val (.int x1), .val (.int x2), .val (.int x3), .val (.int x4), .val (.ref al), .val (.int (0 : Int32)), .unset, .unset, .unset, .unset, .unset, .unset, .unset, .unset, .unset, .unset] []))
    refine Go.of (fun _ q => XS.iloadN X13.here hx rfl (hb hby at_48) rfl q) ?_
    show Go _ _ _ _ _ _ _ (T13.setTop (mkF m 49 #[.val (.int x1), .val (.int x2), .val (.int x3), .val (.int x4), .val (.ref al), .val (.int (0 : Int32)), .unset, .unset, .unset, .unset, .unset, .unset, .unset, .unset, .unset, .unset] [(.int x4)]))
    refine Go.of (fun _ q => XS.iconst X13.here hx rfl (hb hby at_49) q) ?_
    show Go _ _ _ _ _ _ _ (T13.setTop (mkF m 50 #[.val (.int x1), .val (.int x2), .val (.int x3), .val (.int x4), .val (.ref al), .val (.int (0 : Int32)), .unset, .unset, .unset, .unset, .unset, .unset, .unset, .unset, .unset, .unset] [(.int (2 : Int32)), (.int x4)]))
    refine Go.of (fun _ q => XS.iushr X13.here hx rfl (hb hby at_50) rfl q) ?_
    show Go _ _ _ _ _ _ _ (T13.setTop (mkF m 51 #[.val (.int x1), .val (.int x2), .val (.int x3), .val (.int x4), .val (.ref al), .val (.int (0 : Int32)), .unset, .unset, .unset, .unset, .unset, .unset, .unset, .unset, .unset, .unset] [(.int ((x4.toUInt32 >>> ((2 : Int32) &&& 31).toUInt32).toInt32))]))
    refine Go.of (fun _ q => X13.ldcInt hx hown (mvT hZ (hw _ (List.mem_of_getElem? (i := 16) rfl))) (g := (mkF m 51 #[.val (.int x1), .val (.int x2), .val (.int x3), .val (.int x4), .val (.ref al), .val (.int (0 : Int32)), .unset, .unset, .unset, .unset, .unset, .unset, .unset, .unset, .unset, .unset] [(.int ((x4.toUInt32 >>> ((2 : Int32) &&& 31).toUInt32).toInt32))])) rfl (hb hby at_51) _ q) ?_
    show Go _ _ _ _ _ _ _ (T13.setTop (mkF m 53 #[.val (.int x1), .val (.int x2), .val (.int x3), .val (.int x4), .val (.ref al), .val (.int (0 : Int32)), .unset, .unset, .unset, .unset, .unset, .unset, .unset, .unset, .unset, .unset] [(.int (2147483647 : Int32)), (.int ((x4.toUInt32 >>> ((2 : Int32) &&& 31).toUInt32).toInt32))]))
    refine Go.of (fun _ q => XS.iand X13.here hx rfl (hb hby at_53) rfl q) ?_
    show Go _ _ _ _ _ _ _ (T13.setTop (mkF m 54 #[.val (.int x1), .val (.int x2), .val (.int x3), .val (.int x4), .val (.ref al), .val (.int (0 : Int32)), .unset, .unset, .unset, .unset, .unset, .unset, .unset, .unset, .unset, .unset] [(.int (((x4.toUInt32 >>> ((2 : Int32) &&& 31).toUInt32).toInt32) &&& (2147483647 : Int32)))]))
    refine Go.of (fun _ q => XS.bipush X13.here hx rfl (hb hby at_54) q) ?_
    show Go _ _ _ _ _ _ _ (T13.setTop (mkF m 56 #[.val (.int x1), .val (.int x2), .val (.int x3), .val (.int x4), .val (.ref al), .val (.int (0 : Int32)), .unset, .unset, .unset, .unset, .unset, .unset, .unset, .unset, .unset, .unset] [(.int (6 : Int32)), (.int (((x4.toUInt32 >>> ((2 : Int32) &&& 31).toUInt32).toInt32) &&& (2147483647 : Int32)))]))
    refine Go.of (fun _ q => iremM X13 hx rfl (hb hby at_56) rfl (by decide) q) ?_
    show Go _ _ _ _ _ _ _ (T13.setTop (mkF m 57 #[.val (.int x1), .val (.int x2), .val (.int x3), .val (.int x4), .val (.ref al), .val (.int (0 : Int32)), .unset, .unset, .unset, .unset, .unset, .unset, .unset, .unset, .unset, .unset] [(.int ((((x4.toUInt32 >>> ((2 : Int32) &&& 31).toUInt32).toInt32) &&& (2147483647 : Int32)) % (6 : Int32)))]))
    refine Go.of (fun _ q => XS.istore X13.here hx rfl (hb hby at_57) rfl (l' := #[.val (.int x1), .val (.int x2), .val (.int x3), .val (.int x4), .val (.ref al), .val (.int (0 : Int32)), .val (.int ((((x4.toUInt32 >>> ((2 : Int32) &&& 31).toUInt32).toInt32) &&& (2147483647 : Int32)) % (6 : Int32))), .unset, .unset, .unset, .unset, .unset, .unset, .unset, .unset, .unset]) rfl q) ?_
    obtain ⟨r, hr⟩ : ∃ z, z = ((((x4.toUInt32 >>> ((2 : Int32) &&& 31).toUInt32).toInt32) &&& (2147483647 : Int32)) % (6 : Int32)) := ⟨_, rfl⟩
    rw [← hr]
    show Go _ _ _ _ _ _ _ (T13.setTop (mkF m 59 #[.val (.int x1), .val (.int x2), .val (.int x3), .val (.int x4), .val (.ref al), .val (.int (0 : Int32)), .val (.int r), .unset, .unset, .unset, .unset, .unset, .unset, .unset, .unset, .unset] []))
    refine Go.of (fun _ q => XS.aload X13.here hx rfl (hb hby at_59) rfl rfl q) ?_
    show Go _ _ _ _ _ _ _ (T13.setTop (mkF m 61 #[.val (.int x1), .val (.int x2), .val (.int x3), .val (.int x4), .val (.ref al), .val (.int (0 : Int32)), .val (.int r), .unset, .unset, .unset, .unset, .unset, .unset, .unset, .unset, .unset] [(.ref al)]))
    refine Go.of (fun _ q => XS.iload X13.here hx rfl (hb hby at_61) rfl q) ?_
    have rr0 := own_irem ((((x4.toUInt32 >>> ((2 : Int32) &&& 31).toUInt32).toInt32) &&& (2147483647 : Int32))) (6 : Int32) (own_mask _).1 rfl
    rw [← hr] at rr0
    have ix0 := rr0.1
    obtain ⟨b0, hb0, E_b0⟩ := own_pick (Exa.ext Od.2 E_0) (Exa.ext Od.2 E_1) (Exa.ext Od.2 E_2) (Exa.ext Od.2 E_3) (Exa.ext Od.2 E_4) (Exa.ext Od.2 E_5) _ ix0.2.2
    show Go _ _ _ _ _ _ _ (T13.setTop (mkF m 63 #[.val (.int x1), .val (.int x2), .val (.int x3), .val (.int x4), .val (.ref al), .val (.int (0 : Int32)), .val (.int r), .unset, .unset, .unset, .unset, .unset, .unset, .unset, .unset, .unset] [(.int r), (.ref al)]))
    refine Go.of (fun _ q => AF.aaload A_al rfl X13 hx hZ e13 ix0 (v := (.ref b0)) hb0 (g := (mkF m 63 #[.val (.int x1), .val (.int x2), .val (.int x3), .val (.int x4), .val (.ref al), .val (.int (0 : Int32)), .val (.int r), .unset, .unset, .unset, .unset, .unset, .unset, .unset, .unset, .unset] [(.int r), (.ref al)])) rfl rfl (hb hby at_63) q) ?_
    show Go _ _ _ _ _ _ _ (T13.setTop (mkF m 64 #[.val (.int x1), .val (.int x2), .val (.int x3), .val (.int x4), .val (.ref al), .val (.int (0 : Int32)), .val (.int r), .unset, .unset, .unset, .unset, .unset, .unset, .unset, .unset, .unset] [(.ref b0)]))
    refine Go.of (fun _ q => XS.astore X13.here hx rfl (hb hby at_64) rfl rfl (l' := #[.val (.int x1), .val (.int x2), .val (.int x3), .val (.int x4), .val (.ref al), .val (.int (0 : Int32)), .val (.int r), .val (.ref b0), .unset, .unset, .unset, .unset, .unset, .unset, .unset, .unset]) rfl q) ?_
    show Go _ _ _ _ _ _ _ (T13.setTop (mkF m 66 #[.val (.int x1), .val (.int x2), .val (.int x3), .val (.int x4), .val (.ref al), .val (.int (0 : Int32)), .val (.int r), .val (.ref b0), .unset, .unset, .unset, .unset, .unset, .unset, .unset, .unset] []))
    refine Go.of (fun _ q => XS.aload X13.here hx rfl (hb hby at_66) rfl rfl q) ?_
    show Go _ _ _ _ _ _ _ (T13.setTop (mkF m 68 #[.val (.int x1), .val (.int x2), .val (.int x3), .val (.int x4), .val (.ref al), .val (.int (0 : Int32)), .val (.int r), .val (.ref b0), .unset, .unset, .unset, .unset, .unset, .unset, .unset, .unset] [(.ref al)]))
    refine Go.of (fun _ q => XS.iload X13.here hx rfl (hb hby at_68) rfl q) ?_
    show Go _ _ _ _ _ _ _ (T13.setTop (mkF m 70 #[.val (.int x1), .val (.int x2), .val (.int x3), .val (.int x4), .val (.ref al), .val (.int (0 : Int32)), .val (.int r), .val (.ref b0), .unset, .unset, .unset, .unset, .unset, .unset, .unset, .unset] [(.int r), (.ref al)]))
    refine Go.of (fun _ q => XS.iconst X13.here hx rfl (hb hby at_70) q) ?_
    show Go _ _ _ _ _ _ _ (T13.setTop (mkF m 71 #[.val (.int x1), .val (.int x2), .val (.int x3), .val (.int x4), .val (.ref al), .val (.int (0 : Int32)), .val (.int r), .val (.ref b0), .unset, .unset, .unset, .unset, .unset, .unset, .unset, .unset] [(.int (1 : Int32)), (.int r), (.ref al)]))
    refine Go.of (fun _ q => XS.iadd X13.here hx rfl (hb hby at_71) rfl q) ?_
    show Go _ _ _ _ _ _ _ (T13.setTop (mkF m 72 #[.val (.int x1), .val (.int x2), .val (.int x3), .val (.int x4), .val (.ref al), .val (.int (0 : Int32)), .val (.int r), .val (.ref b0), .unset, .unset, .unset, .unset, .unset, .unset, .unset, .unset] [(.int (r + (1 : Int32))), (.ref al)]))
    refine Go.of (fun _ q => XS.bipush X13.here hx rfl (hb hby at_72) q) ?_
    show Go _ _ _ _ _ _ _ (T13.setTop (mkF m 74 #[.val (.int x1), .val (.int x2), .val (.int x3), .val (.int x4), .val (.ref al), .val (.int (0 : Int32)), .val (.int r), .val (.ref b0), .unset, .unset, .unset, .unset, .unset, .unset, .unset, .unset] [(.int (6 : Int32)), (.int (r + (1 : Int32))), (.ref al)]))
    refine Go.of (fun _ q => iremM X13 hx rfl (hb hby at_74) rfl (by decide) q) ?_
    have ix1 := (own_irem (r + (1 : Int32)) (6 : Int32) (own_add r (1 : Int32) 1 (by decide) rr0.2.1 rr0.2.2 (by decide)).1 rfl).1
    obtain ⟨b1, hb1, E_b1⟩ := own_pick (Exa.ext Od.2 E_0) (Exa.ext Od.2 E_1) (Exa.ext Od.2 E_2) (Exa.ext Od.2 E_3) (Exa.ext Od.2 E_4) (Exa.ext Od.2 E_5) _ ix1.2.2
    show Go _ _ _ _ _ _ _ (T13.setTop (mkF m 75 #[.val (.int x1), .val (.int x2), .val (.int x3), .val (.int x4), .val (.ref al), .val (.int (0 : Int32)), .val (.int r), .val (.ref b0), .unset, .unset, .unset, .unset, .unset, .unset, .unset, .unset] [(.int ((r + (1 : Int32)) % (6 : Int32))), (.ref al)]))
    refine Go.of (fun _ q => AF.aaload A_al rfl X13 hx hZ e13 ix1 (v := (.ref b1)) hb1 (g := (mkF m 75 #[.val (.int x1), .val (.int x2), .val (.int x3), .val (.int x4), .val (.ref al), .val (.int (0 : Int32)), .val (.int r), .val (.ref b0), .unset, .unset, .unset, .unset, .unset, .unset, .unset, .unset] [(.int ((r + (1 : Int32)) % (6 : Int32))), (.ref al)])) rfl rfl (hb hby at_75) q) ?_
    show Go _ _ _ _ _ _ _ (T13.setTop (mkF m 76 #[.val (.int x1), .val (.int x2), .val (.int x3), .val (.int x4), .val (.ref al), .val (.int (0 : Int32)), .val (.int r), .val (.ref b0), .unset, .unset, .unset, .unset, .unset, .unset, .unset, .unset] [(.ref b1)]))
    refine Go.of (fun _ q => XS.astore X13.here hx rfl (hb hby at_76) rfl rfl (l' := #[.val (.int x1), .val (.int x2), .val (.int x3), .val (.int x4), .val (.ref al), .val (.int (0 : Int32)), .val (.int r), .val (.ref b0), .val (.ref b1), .unset, .unset, .unset, .unset, .unset, .unset, .unset]) rfl q) ?_
    show Go _ _ _ _ _ _ _ (T13.setTop (mkF m 78 #[.val (.int x1), .val (.int x2), .val (.int x3), .val (.int x4), .val (.ref al), .val (.int (0 : Int32)), .val (.int r), .val (.ref b0), .val (.ref b1), .unset, .unset, .unset, .unset, .unset, .unset, .unset] []))
    refine Go.of (fun _ q => XS.aload X13.here hx rfl (hb hby at_78) rfl rfl q) ?_
    show Go _ _ _ _ _ _ _ (T13.setTop (mkF m 80 #[.val (.int x1), .val (.int x2), .val (.int x3), .val (.int x4), .val (.ref al), .val (.int (0 : Int32)), .val (.int r), .val (.ref b0), .val (.ref b1), .unset, .unset, .unset, .unset, .unset, .unset, .unset] [(.ref al)]))
    refine Go.of (fun _ q => XS.iload X13.here hx rfl (hb hby at_80) rfl q) ?_
    show Go _ _ _ _ _ _ _ (T13.setTop (mkF m 82 #[.val (.int x1), .val (.int x2), .val (.int x3), .val (.int x4), .val (.ref al), .val (.int (0 : Int32)), .val (.int r), .val (.ref b0), .val (.ref b1), .unset, .unset, .unset, .unset, .unset, .unset, .unset] [(.int r), (.ref al)]))
    refine Go.of (fun _ q => XS.iconst X13.here hx rfl (hb hby at_82) q) ?_
    show Go _ _ _ _ _ _ _ (T13.setTop (mkF m 83 #[.val (.int x1), .val (.int x2), .val (.int x3), .val (.int x4), .val (.ref al), .val (.int (0 : Int32)), .val (.int r), .val (.ref b0), .val (.ref b1), .unset, .unset, .unset, .unset, .unset, .unset, .unset] [(.int (2 : Int32)), (.int r), (.ref al)]))
    refine Go.of (fun _ q => XS.iadd X13.here hx rfl (hb hby at_83) rfl q) ?_
    show Go _ _ _ _ _ _ _ (T13.setTop (mkF m 84 #[.val (.int x1), .val (.int x2), .val (.int x3), .val (.int x4), .val (.ref al), .val (.int (0 : Int32)), .val (.int r), .val (.ref b0), .val (.ref b1), .unset, .unset, .unset, .unset, .unset, .unset, .unset] [(.int (r + (2 : Int32))), (.ref al)]))
    refine Go.of (fun _ q => XS.bipush X13.here hx rfl (hb hby at_84) q) ?_
    show Go _ _ _ _ _ _ _ (T13.setTop (mkF m 86 #[.val (.int x1), .val (.int x2), .val (.int x3), .val (.int x4), .val (.ref al), .val (.int (0 : Int32)), .val (.int r), .val (.ref b0), .val (.ref b1), .unset, .unset, .unset, .unset, .unset, .unset, .unset] [(.int (6 : Int32)), (.int (r + (2 : Int32))), (.ref al)]))
    refine Go.of (fun _ q => iremM X13 hx rfl (hb hby at_86) rfl (by decide) q) ?_
    have ix2 := (own_irem (r + (2 : Int32)) (6 : Int32) (own_add r (2 : Int32) 2 (by decide) rr0.2.1 rr0.2.2 (by decide)).1 rfl).1
    obtain ⟨b2, hb2, E_b2⟩ := own_pick (Exa.ext Od.2 E_0) (Exa.ext Od.2 E_1) (Exa.ext Od.2 E_2) (Exa.ext Od.2 E_3) (Exa.ext Od.2 E_4) (Exa.ext Od.2 E_5) _ ix2.2.2
    show Go _ _ _ _ _ _ _ (T13.setTop (mkF m 87 #[.val (.int x1), .val (.int x2), .val (.int x3), .val (.int x4), .val (.ref al), .val (.int (0 : Int32)), .val (.int r), .val (.ref b0), .val (.ref b1), .unset, .unset, .unset, .unset, .unset, .unset, .unset] [(.int ((r + (2 : Int32)) % (6 : Int32))), (.ref al)]))
    refine Go.of (fun _ q => AF.aaload A_al rfl X13 hx hZ e13 ix2 (v := (.ref b2)) hb2 (g := (mkF m 87 #[.val (.int x1), .val (.int x2), .val (.int x3), .val (.int x4), .val (.ref al), .val (.int (0 : Int32)), .val (.int r), .val (.ref b0), .val (.ref b1), .unset, .unset, .unset, .unset, .unset, .unset, .unset] [(.int ((r + (2 : Int32)) % (6 : Int32))), (.ref al)])) rfl rfl (hb hby at_87) q) ?_
    show Go _ _ _ _ _ _ _ (T13.setTop (mkF m 88 #[.val (.int x1), .val (.int x2), .val (.int x3), .val (.int x4), .val (.ref al), .val (.int (0 : Int32)), .val (.int r), .val (.ref b0), .val (.ref b1), .unset, .unset, .unset, .unset, .unset, .unset, .unset] [(.ref b2)]))
    refine Go.of (fun _ q => XS.astore X13.here hx rfl (hb hby at_88) rfl rfl (l' := #[.val (.int x1), .val (.int x2), .val (.int x3), .val (.int x4), .val (.ref al), .val (.int (0 : Int32)), .val (.int r), .val (.ref b0), .val (.ref b1), .val (.ref b2), .unset, .unset, .unset, .unset, .unset, .unset]) rfl q) ?_
    show Go _ _ _ _ _ _ _ (T13.setTop (mkF m 90 #[.val (.int x1), .val (.int x2), .val (.int x3), .val (.int x4), .val (.ref al), .val (.int (0 : Int32)), .val (.int r), .val (.ref b0), .val (.ref b1), .val (.ref b2), .unset, .unset, .unset, .unset, .unset, .unset] []))
    refine Go.of (fun _ q => XS.iload X13.here hx rfl (hb hby at_90) rfl q) ?_
    show Go _ _ _ _ _ _ _ (T13.setTop (mkF m 92 #[.val (.int x1), .val (.int x2), .val (.int x3), .val (.int x4), .val (.ref al), .val (.int (0 : Int32)), .val (.int r), .val (.ref b0), .val (.ref b1), .val (.ref b2), .unset, .unset, .unset, .unset, .unset, .unset] [(.int (0 : Int32))]))
    refine Go.of (fun _ q => XS.iconst X13.here hx rfl (hb hby at_92) q) ?_
    show Go _ _ _ _ _ _ _ (T13.setTop (mkF m 93 #[.val (.int x1), .val (.int x2), .val (.int x3), .val (.int x4), .val (.ref al), .val (.int (0 : Int32)), .val (.int r), .val (.ref b0), .val (.ref b1), .val (.ref b2), .unset, .unset, .unset, .unset, .unset, .unset] [(.int (1 : Int32)), (.int (0 : Int32))]))
    refine Go.of (fun _ q => XS.icmpYes X13.here hx rfl (pc0 := 93) (pc' := 100) rfl (hb hby at_93) rfl (tlt (by decide)).1 (by decide) (by decide) q) ?_
    show Go _ _ _ _ _ _ _ (T13.setTop (mkF m 100 #[.val (.int x1), .val (.int x2), .val (.int x3), .val (.int x4), .val (.ref al), .val (.int (0 : Int32)), .val (.int r), .val (.ref b0), .val (.ref b1), .val (.ref b2), .unset, .unset, .unset, .unset, .unset, .unset] []))
    refine Go.of (fun _ q => XS.iconst X13.here hx rfl (hb hby at_100) q) ?_
    show Go _ _ _ _ _ _ _ (T13.setTop (mkF m 101 #[.val (.int x1), .val (.int x2), .val (.int x3), .val (.int x4), .val (.ref al), .val (.int (0 : Int32)), .val (.int r), .val (.ref b0), .val (.ref b1), .val (.ref b2), .unset, .unset, .unset, .unset, .unset, .unset] [(.int (0 : Int32))]))
    refine Go.of (fun _ q => XS.istore X13.here hx rfl (hb hby at_101) rfl (l' := #[.val (.int x1), .val (.int x2), .val (.int x3), .val (.int x4), .val (.ref al), .val (.int (0 : Int32)), .val (.int r), .val (.ref b0), .val (.ref b1), .val (.ref b2), .val (.int (0 : Int32)), .unset, .unset, .unset, .unset, .unset]) rfl q) ?_
    show Go _ _ _ _ _ _ _ (T13.setTop (mkF m 103 #[.val (.int x1), .val (.int x2), .val (.int x3), .val (.int x4), .val (.ref al), .val (.int (0 : Int32)), .val (.int r), .val (.ref b0), .val (.ref b1), .val (.ref b2), .val (.int (0 : Int32)), .unset, .unset, .unset, .unset, .unset] []))
    refine Go.of (fun _ q => XS.iload X13.here hx rfl (hb hby at_103) rfl q) ?_
    show Go _ _ _ _ _ _ _ (T13.setTop (mkF m 105 #[.val (.int x1), .val (.int x2), .val (.int x3), .val (.int x4), .val (.ref al), .val (.int (0 : Int32)), .val (.int r), .val (.ref b0), .val (.ref b1), .val (.ref b2), .val (.int (0 : Int32)), .unset, .unset, .unset, .unset, .unset] [(.int (0 : Int32))]))
    refine Go.of (fun _ q => XS.iconst X13.here hx rfl (hb hby at_105) q) ?_
    show Go _ _ _ _ _ _ _ (T13.setTop (mkF m 106 #[.val (.int x1), .val (.int x2), .val (.int x3), .val (.int x4), .val (.ref al), .val (.int (0 : Int32)), .val (.int r), .val (.ref b0), .val (.ref b1), .val (.ref b2), .val (.int (0 : Int32)), .unset, .unset, .unset, .unset, .unset] [(.int (2 : Int32)), (.int (0 : Int32))]))
    refine Go.of (fun _ q => XS.icmpYes X13.here hx rfl (pc0 := 106) (pc' := 113) rfl (hb hby at_106) rfl (tlt (by decide)).1 (by decide) (by decide) q) ?_
    show Go _ _ _ _ _ _ _ (T13.setTop (mkF m 113 #[.val (.int x1), .val (.int x2), .val (.int x3), .val (.int x4), .val (.ref al), .val (.int (0 : Int32)), .val (.int r), .val (.ref b0), .val (.ref b1), .val (.ref b2), .val (.int (0 : Int32)), .unset, .unset, .unset, .unset, .unset] []))
    refine Go.of (fun _ q => XS.iconst X13.here hx rfl (hb hby at_113) q) ?_
    show Go _ _ _ _ _ _ _ (T13.setTop (mkF m 114 #[.val (.int x1), .val (.int x2), .val (.int x3), .val (.int x4), .val (.ref al), .val (.int (0 : Int32)), .val (.int r), .val (.ref b0), .val (.ref b1), .val (.ref b2), .val (.int (0 : Int32)), .unset, .unset, .unset, .unset, .unset] [(.int (0 : Int32))]))
    refine Go.of (fun _ q => XS.istore X13.here hx rfl (hb hby at_114) rfl (l' := #[.val (.int x1), .val (.int x2), .val (.int x3), .val (.int x4), .val (.ref al), .val (.int (0 : Int32)), .val (.int r), .val (.ref b0), .val (.ref b1), .val (.ref b2), .val (.int (0 : Int32)), .val (.int (0 : Int32)), .unset, .unset, .unset, .unset]) rfl q) ?_
    show Go _ _ _ _ _ _ _ (T13.setTop (mkF m 116 #[.val (.int x1), .val (.int x2), .val (.int x3), .val (.int x4), .val (.ref al), .val (.int (0 : Int32)), .val (.int r), .val (.ref b0), .val (.ref b1), .val (.ref b2), .val (.int (0 : Int32)), .val (.int (0 : Int32)), .unset, .unset, .unset, .unset] []))
    refine Go.of (fun _ q => XS.iload X13.here hx rfl (hb hby at_116) rfl q) ?_
    show Go _ _ _ _ _ _ _ (T13.setTop (mkF m 118 #[.val (.int x1), .val (.int x2), .val (.int x3), .val (.int x4), .val (.ref al), .val (.int (0 : Int32)), .val (.int r), .val (.ref b0), .val (.ref b1), .val (.ref b2), .val (.int (0 : Int32)), .val (.int (0 : Int32)), .unset, .unset, .unset, .unset] [(.int (0 : Int32))]))
    refine Go.of (fun _ q => XS.iconst X13.here hx rfl (hb hby at_118) q) ?_
    show Go _ _ _ _ _ _ _ (T13.setTop (mkF m 119 #[.val (.int x1), .val (.int x2), .val (.int x3), .val (.int x4), .val (.ref al), .val (.int (0 : Int32)), .val (.int r), .val (.ref b0), .val (.ref b1), .val (.ref b2), .val (.int (0 : Int32)), .val (.int (0 : Int32)), .unset, .unset, .unset, .unset] [(.int (3 : Int32)), (.int (0 : Int32))]))
    refine Go.of (fun _ q => XS.icmpYes X13.here hx rfl (pc0 := 119) (pc' := 126) rfl (hb hby at_119) rfl (tlt (by decide)).1 (by decide) (by decide) q) ?_
    show Go _ _ _ _ _ _ _ (T13.setTop (mkF m 126 #[.val (.int x1), .val (.int x2), .val (.int x3), .val (.int x4), .val (.ref al), .val (.int (0 : Int32)), .val (.int r), .val (.ref b0), .val (.ref b1), .val (.ref b2), .val (.int (0 : Int32)), .val (.int (0 : Int32)), .unset, .unset, .unset, .unset] []))
    refine Go.of (fun _ q => XS.iconst X13.here hx rfl (hb hby at_126) q) ?_
    show Go _ _ _ _ _ _ _ (T13.setTop (mkF m 127 #[.val (.int x1), .val (.int x2), .val (.int x3), .val (.int x4), .val (.ref al), .val (.int (0 : Int32)), .val (.int r), .val (.ref b0), .val (.ref b1), .val (.ref b2), .val (.int (0 : Int32)), .val (.int (0 : Int32)), .unset, .unset, .unset, .unset] [(.int (0 : Int32))]))
    refine Go.of (fun _ q => XS.istore X13.here hx rfl (hb hby at_127) rfl (l' := #[.val (.int x1), .val (.int x2), .val (.int x3), .val (.int x4), .val (.ref al), .val (.int (0 : Int32)), .val (.int r), .val (.ref b0), .val (.ref b1), .val (.ref b2), .val (.int (0 : Int32)), .val (.int (0 : Int32)), .val (.int (0 : Int32)), .unset, .unset, .unset]) rfl q) ?_
    show Go _ _ _ _ _ _ _ (T13.setTop (mkF m 129 #[.val (.int x1), .val (.int x2), .val (.int x3), .val (.int x4), .val (.ref al), .val (.int (0 : Int32)), .val (.int r), .val (.ref b0), .val (.ref b1), .val (.ref b2), .val (.int (0 : Int32)), .val (.int (0 : Int32)), .val (.int (0 : Int32)), .unset, .unset, .unset] []))
    obtain ⟨T14, h14, X14, e14, E14, A14, D14, -, st14⟩ := newO X13 hx hZ hown (hw _ (List.mem_of_getElem? (i := 17) rfl)) (hw _ (List.mem_of_getElem? (i := 18) rfl)) (hw _ (List.mem_of_getElem? (i := 19) rfl)) e13 (g := (mkF m 129 #[.val (.int x1), .val (.int x2), .val (.int x3), .val (.int x4), .val (.ref al), .val (.int (0 : Int32)), .val (.int r), .val (.ref b0), .val (.ref b1), .val (.ref b2), .val (.int (0 : Int32)), .val (.int (0 : Int32)), .val (.int (0 : Int32)), .unset, .unset, .unset] [])) rfl (hb hby at_129) (by decide) (by decide)
    obtain ⟨a, g14⟩ : ∃ z, z = h13.size := ⟨_, rfl⟩
    rw [← g14] at A14 D14 st14
    refine Go.of st14 ?_
    have g_a : n0 ≤ a := Nat.le_trans Zs (Nat.le_of_eq g14.symm)
    have sz_a : h0.size ≤ a := Nat.le_trans Kp.1 (Nat.le_of_eq g14.symm)
    have ne_al_a : al ≠ a := Nat.ne_of_lt (Nat.lt_of_lt_of_le E_al.lt (Nat.le_of_eq g14.symm))
    have ne_b0_a : b0 ≠ a := Nat.ne_of_lt (Nat.lt_of_lt_of_le E_b0.lt (Nat.le_of_eq g14.symm))
    have ne_b1_a : b1 ≠ a := Nat.ne_of_lt (Nat.lt_of_lt_of_le E_b1.lt (Nat.le_of_eq g14.symm))
    have ne_b2_a : b2 ≠ a := Nat.ne_of_lt (Nat.lt_of_lt_of_le E_b2.lt (Nat.le_of_eq g14.symm))
    have Zs := Nat.le_trans Zs E14.1
    have Kp := Kp.ext E14
    have Od := Od.ext E14
    have E_al := E_al.ext E14
    have A_al := A_al.ext E14
    have E_b0 := E_b0.ext E14
    have E_b1 := E_b1.ext E14
    have E_b2 := E_b2.ext E14
    have E_a := A14
    have F_a_highestCount : Fld Z h14 a "com/example/tundra_ascent/tundraascent/rules/StrictlyMost" "highestCount" "I" (.int (0 : Int32)) := D14 (Or.inl (hw _ (List.mem_of_getElem? (i := 32) rfl))) (ty := .int) (by decide)
    have F_a_tied : Fld Z h14 a "com/example/tundra_ascent/tundraascent/rules/StrictlyMost" "tied" "Z" (.int (0 : Int32)) := D14 (Or.inl (hw _ (List.mem_of_getElem? (i := 34) rfl))) (ty := .boolean) (by decide)
    have F_a_highest : Fld Z h14 a "com/example/tundra_ascent/tundraascent/rules/StrictlyMost" "highest" "Lcom/example/tundra_ascent/tundraascent/rules/Animal;" .null := D14 (Or.inl (hw _ (List.mem_of_getElem? (i := 57) rfl))) (ty := (.object "com/example/tundra_ascent/tundraascent/rules/Animal")) (by decide)
    show Go _ _ _ _ _ _ _ (T14.setTop (mkF m 132 #[.val (.int x1), .val (.int x2), .val (.int x3), .val (.int x4), .val (.ref al), .val (.int (0 : Int32)), .val (.int r), .val (.ref b0), .val (.ref b1), .val (.ref b2), .val (.int (0 : Int32)), .val (.int (0 : Int32)), .val (.int (0 : Int32)), .unset, .unset, .unset] [(.ref a)]))
    refine Go.of (fun _ q => XS.dup X14.here hx rfl (hb hby at_132) rfl rfl q) ?_
    show Go _ _ _ _ _ _ _ (T14.setTop (mkF m 133 #[.val (.int x1), .val (.int x2), .val (.int x3), .val (.int x4), .val (.ref al), .val (.int (0 : Int32)), .val (.int r), .val (.ref b0), .val (.ref b1), .val (.ref b2), .val (.int (0 : Int32)), .val (.int (0 : Int32)), .val (.int (0 : Int32)), .unset, .unset, .unset] [(.ref a), (.ref a)]))
    refine Go.special X14 hx hZ (y := (⟨"com/example/tundra_ascent/tundraascent/rules/StrictlyMost", "<init>", "()V"⟩ : MethodName)) (a := a) (argsL := []) rfl hown (hw _ (List.mem_of_getElem? (i := 20) rfl)) (hw _ (List.mem_of_getElem? (i := 21) rfl)) (hw _ (List.mem_of_getElem? (i := 19) rfl)) (hw _ (List.mem_of_getElem? (i := 22) rfl)) (by decide) 1 e14 (rm1 l Z a0 hw a h14 n0 Zs ) (by decide) (by decide) (by decide) (by decide) (g := (mkF m 133 #[.val (.int x1), .val (.int x2), .val (.int x3), .val (.int x4), .val (.ref al), .val (.int (0 : Int32)), .val (.int r), .val (.ref b0), .val (.ref b1), .val (.ref b2), .val (.int (0 : Int32)), .val (.int (0 : Int32)), .val (.int (0 : Int32)), .unset, .unset, .unset] [(.ref a), (.ref a)])) rfl (by rw [hml]; rfl) (rest := [(.ref a)]) (lenOf pd3 rfl) rfl (by show 2 * 0 + _ ≤ _; exact Nat.le_of_eq rfl) (hb hby at_133) ?_
    intro T15 v15 L15 X15 q15
    obtain ⟨rfl, Nq15, e15⟩ := q15
    have N15 := Fr.app N13 Nq15
    show Go _ _ _ _ _ _ _ (T15.setTop (mkF m 136 #[.val (.int x1), .val (.int x2), .val (.int x3), .val (.int x4), .val (.ref al), .val (.int (0 : Int32)), .val (.int r), .val (.ref b0), .val (.ref b1), .val (.ref b2), .val (.int (0 : Int32)), .val (.int (0 : Int32)), .val (.int (0 : Int32)), .unset, .unset, .unset] [(.ref a)]))
    refine Go.of (fun _ q => XS.astore X15.here hx rfl (hb hby at_136) rfl rfl (l' := #[.val (.int x1), .val (.int x2), .val (.int x3), .val (.int x4), .val (.ref al), .val (.int (0 : Int32)), .val (.int r), .val (.ref b0), .val (.ref b1), .val (.ref b2), .val (.int (0 : Int32)), .val (.int (0 : Int32)), .val (.int (0 : Int32)), .val (.ref a), .unset, .unset]) rfl q) ?_
    show Go _ _ _ _ _ _ _ (T15.setTop (mkF m 138 #[.val (.int x1), .val (.int x2), .val (.int x3), .val (.int x4), .val (.ref al), .val (.int (0 : Int32)), .val (.int r), .val (.ref b0), .val (.ref b1), .val (.ref b2), .val (.int (0 : Int32)), .val (.int (0 : Int32)), .val (.int (0 : Int32)), .val (.ref a), .unset, .unset] []))
    refine Go.of (fun _ q => XS.iload X15.here hx rfl (hb hby at_138) rfl q) ?_
    show Go _ _ _ _ _ _ _ (T15.setTop (mkF m 140 #[.val (.int x1), .val (.int x2), .val (.int x3), .val (.int x4), .val (.ref al), .val (.int (0 : Int32)), .val (.int r), .val (.ref b0), .val (.ref b1), .val (.ref b2), .val (.int (0 : Int32)), .val (.int (0 : Int32)), .val (.int (0 : Int32)), .val (.ref a), .unset, .unset] [(.int (0 : Int32))]))
    refine Go.of (fun _ q => XS.ifYes X15.here hx rfl (pc0 := 140) (pc' := 151) rfl (hb hby at_140) rfl ((if0 _ _).trans (teq rfl).1) (by decide) (by decide) q) ?_
    show Go _ _ _ _ _ _ _ (T15.setTop (mkF m 151 #[.val (.int x1), .val (.int x2), .val (.int x3), .val (.int x4), .val (.ref al), .val (.int (0 : Int32)), .val (.int r), .val (.ref b0), .val (.ref b1), .val (.ref b2), .val (.int (0 : Int32)), .val (.int (0 : Int32)), .val (.int (0 : Int32)), .val (.ref a), .unset, .unset] []))
    refine Go.of (fun _ q => XS.iload X15.here hx rfl (hb hby at_151) rfl q) ?_
    show Go _ _ _ _ _ _ _ (T15.setTop (mkF m 153 #[.val (.int x1), .val (.int x2), .val (.int x3), .val (.int x4), .val (.ref al), .val (.int (0 : Int32)), .val (.int r), .val (.ref b0), .val (.ref b1), .val (.ref b2), .val (.int (0 : Int32)), .val (.int (0 : Int32)), .val (.int (0 : Int32)), .val (.ref a), .unset, .unset] [(.int (0 : Int32))]))
    refine Go.of (fun _ q => XS.ifYes X15.here hx rfl (pc0 := 153) (pc' := 164) rfl (hb hby at_153) rfl ((if0 _ _).trans (teq rfl).1) (by decide) (by decide) q) ?_
    show Go _ _ _ _ _ _ _ (T15.setTop (mkF m 164 #[.val (.int x1), .val (.int x2), .val (.int x3), .val (.int x4), .val (.ref al), .val (.int (0 : Int32)), .val (.int r), .val (.ref b0), .val (.ref b1), .val (.ref b2), .val (.int (0 : Int32)), .val (.int (0 : Int32)), .val (.int (0 : Int32)), .val (.ref a), .unset, .unset] []))
    refine Go.of (fun _ q => XS.iload X15.here hx rfl (hb hby at_164) rfl q) ?_
    show Go _ _ _ _ _ _ _ (T15.setTop (mkF m 166 #[.val (.int x1), .val (.int x2), .val (.int x3), .val (.int x4), .val (.ref al), .val (.int (0 : Int32)), .val (.int r), .val (.ref b0), .val (.ref b1), .val (.ref b2), .val (.int (0 : Int32)), .val (.int (0 : Int32)), .val (.int (0 : Int32)), .val (.ref a), .unset, .unset] [(.int (0 : Int32))]))
    refine Go.of (fun _ q => XS.ifYes X15.here hx rfl (pc0 := 166) (pc' := 177) rfl (hb hby at_166) rfl ((if0 _ _).trans (teq rfl).1) (by decide) (by decide) q) ?_
    show Go _ _ _ _ _ _ _ (T15.setTop (mkF m 177 #[.val (.int x1), .val (.int x2), .val (.int x3), .val (.int x4), .val (.ref al), .val (.int (0 : Int32)), .val (.int r), .val (.ref b0), .val (.ref b1), .val (.ref b2), .val (.int (0 : Int32)), .val (.int (0 : Int32)), .val (.int (0 : Int32)), .val (.ref a), .unset, .unset] []))
    refine Go.of (fun _ q => XS.aload X15.here hx rfl (hb hby at_177) rfl rfl q) ?_
    show Go _ _ _ _ _ _ _ (T15.setTop (mkF m 179 #[.val (.int x1), .val (.int x2), .val (.int x3), .val (.int x4), .val (.ref al), .val (.int (0 : Int32)), .val (.int r), .val (.ref b0), .val (.ref b1), .val (.ref b2), .val (.int (0 : Int32)), .val (.int (0 : Int32)), .val (.int (0 : Int32)), .val (.ref a), .unset, .unset] [(.ref a)]))
    refine Go.virtual X15 hx hZ (y := (⟨"com/example/tundra_ascent/tundraascent/rules/StrictlyMost", "animal", "()Ljava/util/Optional;"⟩ : MethodName)) (z := (⟨"com/example/tundra_ascent/tundraascent/rules/StrictlyMost", "animal", "()Ljava/util/Optional;"⟩ : MethodName)) (a := a) (argsL := []) hown (hw _ (List.mem_of_getElem? (i := 35) rfl)) (hw _ (List.mem_of_getElem? (i := 36) rfl)) (notFace_of_selects (args := #[]) (mvT hZ (hw _ (List.mem_of_getElem? (i := 38) rfl)))) (hw _ (List.mem_of_getElem? (i := 38) rfl)) (hw _ (List.mem_of_getElem? (i := 37) rfl)) (hw _ (List.mem_of_getElem? (i := 19) rfl)) (hw _ (List.mem_of_getElem? (i := 39) rfl)) (by decide) 0 e15 E_a (rm4 l Z a0 hw a .null rfl (0 : Int32) em h14 n0 Zs Od F_a_highest F_a_tied Sem Eem Fem) (by decide) (by decide) (by decide) (by decide) (g := (mkF m 179 #[.val (.int x1), .val (.int x2), .val (.int x3), .val (.int x4), .val (.ref al), .val (.int (0 : Int32)), .val (.int r), .val (.ref b0), .val (.ref b1), .val (.ref b2), .val (.int (0 : Int32)), .val (.int (0 : Int32)), .val (.int (0 : Int32)), .val (.ref a), .unset, .unset] [(.ref a)])) rfl (by rw [hml]; rfl) (rest := []) (lenOf pd2 rfl) rfl (by show 2 * 0 + _ ≤ _; exact Nat.le_of_eq rfl) (hb hby at_179) ?_
    intro T16 v16 L16 X16 q16
    obtain ⟨ob1, rfl, Nq16, K16, f16_0, f16_1⟩ := q16
    have N16 := Fr.app N15 Nq16
    have Zs := Nat.le_trans Zs K16.1
    have Kp := Kp.trans K16 all0
    have Od := Od.keep K16 all0
    have E_al := E_al.keep K16
    have A_al := A_al.keep K16 nin0
    have E_b0 := E_b0.keep K16
    have E_b1 := E_b1.keep K16
    have E_b2 := E_b2.keep K16
    have E_a := E_a.keep K16
    have F_a_highestCount := F_a_highestCount.keep K16 nin0
    have F_a_tied := F_a_tied.keep K16 nin0
    have F_a_highest := F_a_highest.keep K16 nin0
    have E_ob1 := f16_0
    have F_ob1_value := f16_1
    show Go _ _ _ _ _ _ _ (T16.setTop (mkF m 182 #[.val (.int x1), .val (.int x2), .val (.int x3), .val (.int x4), .val (.ref al), .val (.int (0 : Int32)), .val (.int r), .val (.ref b0), .val (.ref b1), .val (.ref b2), .val (.int (0 : Int32)), .val (.int (0 : Int32)), .val (.int (0 : Int32)), .val (.ref a), .unset, .unset] [(.ref ob1)]))
    refine Go.of (fun _ q => XS.aconstNull X16.here hx rfl (hb hby at_182) q) ?_
    show Go _ _ _ _ _ _ _ (T16.setTop (mkF m 183 #[.val (.int x1), .val (.int x2), .val (.int x3), .val (.int x4), .val (.ref al), .val (.int (0 : Int32)), .val (.int r), .val (.ref b0), .val (.ref b1), .val (.ref b2), .val (.int (0 : Int32)), .val (.int (0 : Int32)), .val (.int (0 : Int32)), .val (.ref a), .unset, .unset] [.null, (.ref ob1)]))
    refine Go.virtual X16 hx hZ (y := (⟨"java/util/Optional", "orElse", "(Ljava/lang/Object;)Ljava/lang/Object;"⟩ : MethodName)) (z := (⟨"java/util/Optional", "orElse", "(Ljava/lang/Object;)Ljava/lang/Object;"⟩ : MethodName)) (a := ob1) (argsL := [.null]) hown (hw _ (List.mem_of_getElem? (i := 45) rfl)) (hw _ (List.mem_of_getElem? (i := 46) rfl)) (notFace_of_selects (args := #[]) (mvT hZ (hw _ (List.mem_of_getElem? (i := 48) rfl)))) (hw _ (List.mem_of_getElem? (i := 48) rfl)) (hw _ (List.mem_of_getElem? (i := 47) rfl)) (hw _ (List.mem_of_getElem? (i := 42) rfl)) (hw _ (List.mem_of_getElem? (i := 49) rfl)) (by decide) 0 rfl E_ob1 (rm6 l Z a0 hw ob1 (if (0 : Int32) = (0 : Int32) then .null else Value.null) (own_iteR rfl) T16.heap n0 Zs F_ob1_value) (by decide) (by decide) (by decide) (by decide) (g := (mkF m 183 #[.val (.int x1), .val (.int x2), .val (.int x3), .val (.int x4), .val (.ref al), .val (.int (0 : Int32)), .val (.int r), .val (.ref b0), .val (.ref b1), .val (.ref b2), .val (.int (0 : Int32)), .val (.int (0 : Int32)), .val (.int (0 : Int32)), .val (.ref a), .unset, .unset] [.null, (.ref ob1)])) rfl (by rw [hml]; rfl) (rest := []) (lenOf pd4 rfl) rfl (by show 2 * 0 + _ ≤ _; exact Nat.le_of_eq rfl) (hb hby at_183) ?_
    intro T17 v17 L17 X17 q17
    obtain ⟨rfl, Nq17, e17⟩ := q17
    have N17 := Fr.app N16 Nq17
    obtain ⟨got, hgot⟩ : ∃ z : Value, z = (if (0 : Int32) = (0 : Int32) then .null else Value.null) := ⟨_, rfl⟩
    rw [← hgot]
    have rgot : got.isRef = true := by rw [hgot]; exact (own_iteR rfl)
    show Go _ _ _ _ _ _ _ (T17.setTop (mkF m 186 #[.val (.int x1), .val (.int x2), .val (.int x3), .val (.int x4), .val (.ref al), .val (.int (0 : Int32)), .val (.int r), .val (.ref b0), .val (.ref b1), .val (.ref b2), .val (.int (0 : Int32)), .val (.int (0 : Int32)), .val (.int (0 : Int32)), .val (.ref a), .unset, .unset] [got]))
    obtain ⟨T18, X18, e18, st18⟩ := castV X17 hx hZ hown (hw _ (List.mem_of_getElem? (i := 0) rfl)) e17 (Or.inl (by rw [hgot]; rfl)) (g := (mkF m 186 #[.val (.int x1), .val (.int x2), .val (.int x3), .val (.int x4), .val (.ref al), .val (.int (0 : Int32)), .val (.int r), .val (.ref b0), .val (.ref b1), .val (.ref b2), .val (.int (0 : Int32)), .val (.int (0 : Int32)), .val (.int (0 : Int32)), .val (.ref a), .unset, .unset] [got])) rfl rfl (hb hby at_186)
    refine Go.of st18 ?_
    show Go _ _ _ _ _ _ _ (T18.setTop (mkF m 189 #[.val (.int x1), .val (.int x2), .val (.int x3), .val (.int x4), .val (.ref al), .val (.int (0 : Int32)), .val (.int r), .val (.ref b0), .val (.ref b1), .val (.ref b2), .val (.int (0 : Int32)), .val (.int (0 : Int32)), .val (.int (0 : Int32)), .val (.ref a), .unset, .unset] [got]))
    refine Go.of (fun _ q => XS.astore X18.here hx rfl (hb hby at_189) rfl rgot (l' := #[.val (.int x1), .val (.int x2), .val (.int x3), .val (.int x4), .val (.ref al), .val (.int (0 : Int32)), .val (.int r), .val (.ref b0), .val (.ref b1), .val (.ref b2), .val (.int (0 : Int32)), .val (.int (0 : Int32)), .val (.int (0 : Int32)), .val (.ref a), .val got, .unset]) (by first | rfl | (cases got <;> first | rfl | (simp [Value.isRef] at rgot; done))) q) ?_
    show Go _ _ _ _ _ _ _ (T18.setTop (mkF m 191 #[.val (.int x1), .val (.int x2), .val (.int x3), .val (.int x4), .val (.ref al), .val (.int (0 : Int32)), .val (.int r), .val (.ref b0), .val (.ref b1), .val (.ref b2), .val (.int (0 : Int32)), .val (.int (0 : Int32)), .val (.int (0 : Int32)), .val (.ref a), .val got, .unset] []))
    refine Go.of (fun _ q => XS.aconstNull X18.here hx rfl (hb hby at_191) q) ?_
    show Go _ _ _ _ _ _ _ (T18.setTop (mkF m 192 #[.val (.int x1), .val (.int x2), .val (.int x3), .val (.int x4), .val (.ref al), .val (.int (0 : Int32)), .val (.int r), .val (.ref b0), .val (.ref b1), .val (.ref b2), .val (.int (0 : Int32)), .val (.int (0 : Int32)), .val (.int (0 : Int32)), .val (.ref a), .val got, .unset] [.null]))
    refine Go.of (fun _ q => XS.astore X18.here hx rfl (hb hby at_192) rfl rfl (l' := #[.val (.int x1), .val (.int x2), .val (.int x3), .val (.int x4), .val (.ref al), .val (.int (0 : Int32)), .val (.int r), .val (.ref b0), .val (.ref b1), .val (.ref b2), .val (.int (0 : Int32)), .val (.int (0 : Int32)), .val (.int (0 : Int32)), .val (.ref a), .val got, .val .null]) rfl q) ?_
    show Go _ _ _ _ _ _ _ (T18.setTop (mkF m 194 #[.val (.int x1), .val (.int x2), .val (.int x3), .val (.int x4), .val (.ref al), .val (.int (0 : Int32)), .val (.int r), .val (.ref b0), .val (.ref b1), .val (.ref b2), .val (.int (0 : Int32)), .val (.int (0 : Int32)), .val (.int (0 : Int32)), .val (.ref a), .val got, .val .null] []))
    refine Go.of (fun _ q => XS.iload X18.here hx rfl (hb hby at_194) rfl q) ?_
    show Go _ _ _ _ _ _ _ (T18.setTop (mkF m 196 #[.val (.int x1), .val (.int x2), .val (.int x3), .val (.int x4), .val (.ref al), .val (.int (0 : Int32)), .val (.int r), .val (.ref b0), .val (.ref b1), .val (.ref b2), .val (.int (0 : Int32)), .val (.int (0 : Int32)), .val (.int (0 : Int32)), .val (.ref a), .val got, .val .null] [(.int (0 : Int32))]))
    refine Go.of (fun _ q => XS.iloadN X18.here hx rfl (hb hby at_196) rfl q) ?_
    show Go _ _ _ _ _ _ _ (T18.setTop (mkF m 197 #[.val (.int x1), .val (.int x2), .val (.int x3), .val (.int x4), .val (.ref al), .val (.int (0 : Int32)), .val (.int r), .val (.ref b0), .val (.ref b1), .val (.ref b2), .val (.int (0 : Int32)), .val (.int (0 : Int32)), .val (.int (0 : Int32)), .val (.ref a), .val got, .val .null] [(.int x1), (.int (0 : Int32))]))
    refine Go.of (fun _ q => XS.iload X18.here hx rfl (hb hby at_197) rfl q) ?_
    show Go _ _ _ _ _ _ _ (T18.setTop (mkF m 199 #[.val (.int x1), .val (.int x2), .val (.int x3), .val (.int x4), .val (.ref al), .val (.int (0 : Int32)), .val (.int r), .val (.ref b0), .val (.ref b1), .val (.ref b2), .val (.int (0 : Int32)), .val (.int (0 : Int32)), .val (.int (0 : Int32)), .val (.ref a), .val got, .val .null] [(.int (0 : Int32)), (.int x1), (.int (0 : Int32))]))
    refine Go.of (fun _ q => XS.iloadN X18.here hx rfl (hb hby at_199) rfl q) ?_
    show Go _ _ _ _ _ _ _ (T18.setTop (mkF m 200 #[.val (.int x1), .val (.int x2), .val (.int x3), .val (.int x4), .val (.ref al), .val (.int (0 : Int32)), .val (.int r), .val (.ref b0), .val (.ref b1), .val (.ref b2), .val (.int (0 : Int32)), .val (.int (0 : Int32)), .val (.int (0 : Int32)), .val (.ref a), .val got, .val .null] [(.int x2), (.int (0 : Int32)), (.int x1), (.int (0 : Int32))]))
    refine Go.of (fun _ q => XS.iload X18.here hx rfl (hb hby at_200) rfl q) ?_
    show Go _ _ _ _ _ _ _ (T18.setTop (mkF m 202 #[.val (.int x1), .val (.int x2), .val (.int x3), .val (.int x4), .val (.ref al), .val (.int (0 : Int32)), .val (.int r), .val (.ref b0), .val (.ref b1), .val (.ref b2), .val (.int (0 : Int32)), .val (.int (0 : Int32)), .val (.int (0 : Int32)), .val (.ref a), .val got, .val .null] [(.int (0 : Int32)), (.int x2), (.int (0 : Int32)), (.int x1), (.int (0 : Int32))]))
    refine Go.of (fun _ q => XS.iloadN X18.here hx rfl (hb hby at_202) rfl q) ?_
    show Go _ _ _ _ _ _ _ (T18.setTop (mkF m 203 #[.val (.int x1), .val (.int x2), .val (.int x3), .val (.int x4), .val (.ref al), .val (.int (0 : Int32)), .val (.int r), .val (.ref b0), .val (.ref b1), .val (.ref b2), .val (.int (0 : Int32)), .val (.int (0 : Int32)), .val (.int (0 : Int32)), .val (.ref a), .val got, .val .null] [(.int x3), (.int (0 : Int32)), (.int x2), (.int (0 : Int32)), (.int x1), (.int (0 : Int32))]))
    refine Go.static X18 hx hZ (y := (⟨"com/example/tundra_ascent/tundraascent/rules/StrictlyMostCountPinLaw", "wins", "(ZIZIZI)Z"⟩ : MethodName)) (argsL := [(.int (0 : Int32)), (.int x1), (.int (0 : Int32)), (.int x2), (.int (0 : Int32)), (.int x3)]) hown (hw _ (List.mem_of_getElem? (i := 52) rfl)) (hw _ (List.mem_of_getElem? (i := 53) rfl)) (hw _ (List.mem_of_getElem? (i := 54) rfl)) (hw _ (List.mem_of_getElem? (i := 55) rfl)) (by decide) 0 e18 (rm7 l Z a0 hw (0 : Int32) x1 (0 : Int32) x2 (0 : Int32) x3 T16.heap n0 Zs ) (by decide) (by decide) (by decide) (by decide) (g := (mkF m 203 #[.val (.int x1), .val (.int x2), .val (.int x3), .val (.int x4), .val (.ref al), .val (.int (0 : Int32)), .val (.int r), .val (.ref b0), .val (.ref b1), .val (.ref b2), .val (.int (0 : Int32)), .val (.int (0 : Int32)), .val (.int (0 : Int32)), .val (.ref a), .val got, .val .null] [(.int x3), (.int (0 : Int32)), (.int x2), (.int (0 : Int32)), (.int x1), (.int (0 : Int32))])) rfl (by rw [hml]; rfl) (rest := []) (lenOf pd5 rfl) rfl (by show 2 * 0 + _ ≤ _; exact Nat.le_of_eq rfl) (hb hby at_203) ?_
    intro T19 v19 L19 X19 q19
    obtain ⟨rfl, Nq19, e19⟩ := q19
    have N19 := Fr.app N17 Nq19
    show Go _ _ _ _ _ _ _ (T19.setTop (mkF m 206 #[.val (.int x1), .val (.int x2), .val (.int x3), .val (.int x4), .val (.ref al), .val (.int (0 : Int32)), .val (.int r), .val (.ref b0), .val (.ref b1), .val (.ref b2), .val (.int (0 : Int32)), .val (.int (0 : Int32)), .val (.int (0 : Int32)), .val (.ref a), .val got, .val .null] [(.int (own_w (0 : Int32) x1 (0 : Int32) x2 (0 : Int32) x3))]))
    have J22 : ∀ (TJ22 : State) (lJ22 : List Loc) (zJ22_0 : Value), Stand p l e room_1 s m #[(.int x1), (.int x2), (.int x3), (.int x4)] below meth c TJ22 lJ22 3 10 → TJ22.heap = T16.heap → Fr n0 lJ22 → zJ22_0 = ((if (own_w (0 : Int32) x1 (0 : Int32) x2 (0 : Int32) x3) = (0 : Int32) then (if (own_w (0 : Int32) x2 (0 : Int32) x1 (0 : Int32) x3) = (0 : Int32) then (if (own_w (0 : Int32) x3 (0 : Int32) x1 (0 : Int32) x2) = (0 : Int32) then .null else (.ref b2)) else (.ref b1)) else (.ref b0)) : Value) → zJ22_0.isRef = true → Go p e below s room_1.cells room_1.slots (Q0 Z x1 x2 x3 x4 o0 o1 o2 o3 o4 o5 em h0 n0) (TJ22.setTop (mkF m 257 #[.val (.int x1), .val (.int x2), .val (.int x3), .val (.int x4), .val (.ref al), .val (.int (0 : Int32)), .val (.int r), .val (.ref b0), .val (.ref b1), .val (.ref b2), .val (.int (0 : Int32)), .val (.int (0 : Int32)), .val (.int (0 : Int32)), .val (.ref a), .val got, .val zJ22_0] [])) := by
      intro TJ22 lJ22 zJ22_0 XJ22 eJ22 NJ22 hzJ22_0 rzJ22_0
      show Go _ _ _ _ _ _ _ (TJ22.setTop (mkF m 257 #[.val (.int x1), .val (.int x2), .val (.int x3), .val (.int x4), .val (.ref al), .val (.int (0 : Int32)), .val (.int r), .val (.ref b0), .val (.ref b1), .val (.ref b2), .val (.int (0 : Int32)), .val (.int (0 : Int32)), .val (.int (0 : Int32)), .val (.ref a), .val got, .val zJ22_0] []))
      refine Go.of (fun _ q => XS.aload XJ22.here hx rfl (hb hby at_257) rfl rgot q) ?_
      show Go _ _ _ _ _ _ _ (TJ22.setTop (mkF m 259 #[.val (.int x1), .val (.int x2), .val (.int x3), .val (.int x4), .val (.ref al), .val (.int (0 : Int32)), .val (.int r), .val (.ref b0), .val (.ref b1), .val (.ref b2), .val (.int (0 : Int32)), .val (.int (0 : Int32)), .val (.int (0 : Int32)), .val (.ref a), .val got, .val zJ22_0] [got]))
      refine Go.of (fun _ q => XS.aload XJ22.here hx rfl (hb hby at_259) rfl rzJ22_0 q) ?_
      show Go _ _ _ _ _ _ _ (TJ22.setTop (mkF m 261 #[.val (.int x1), .val (.int x2), .val (.int x3), .val (.int x4), .val (.ref al), .val (.int (0 : Int32)), .val (.int r), .val (.ref b0), .val (.ref b1), .val (.ref b2), .val (.int (0 : Int32)), .val (.int (0 : Int32)), .val (.int (0 : Int32)), .val (.ref a), .val got, .val zJ22_0] [zJ22_0, got]))
      refine Go.of (fun _ q => Jvm.RoadKit.acmp (g := (mkF m 261 #[.val (.int x1), .val (.int x2), .val (.int x3), .val (.int x4), .val (.ref al), .val (.int (0 : Int32)), .val (.int r), .val (.ref b0), .val (.ref b1), .val (.ref b2), .val (.int (0 : Int32)), .val (.int (0 : Int32)), .val (.int (0 : Int32)), .val (.ref a), .val got, .val zJ22_0] [zJ22_0, got])) XJ22 hx rfl rgot rzJ22_0 (pc0 := 261) (pc' := 264) (same := true) rfl (hb hby at_261) rfl (decide_eq_true (by rw [hgot, hzJ22_0]; exact own_p0 x1 x2 x3 b0 b1 b2)) (by decide) (by decide) q) ?_
      show Go _ _ _ _ _ _ _ (TJ22.setTop (mkF m 264 #[.val (.int x1), .val (.int x2), .val (.int x3), .val (.int x4), .val (.ref al), .val (.int (0 : Int32)), .val (.int r), .val (.ref b0), .val (.ref b1), .val (.ref b2), .val (.int (0 : Int32)), .val (.int (0 : Int32)), .val (.int (0 : Int32)), .val (.ref a), .val got, .val zJ22_0] []))
      refine Go.of (fun _ q => XS.iconst XJ22.here hx rfl (hb hby at_264) q) ?_
      show Go _ _ _ _ _ _ _ (TJ22.setTop (mkF m 265 #[.val (.int x1), .val (.int x2), .val (.int x3), .val (.int x4), .val (.ref al), .val (.int (0 : Int32)), .val (.int r), .val (.ref b0), .val (.ref b1), .val (.ref b2), .val (.int (0 : Int32)), .val (.int (0 : Int32)), .val (.int (0 : Int32)), .val (.ref a), .val got, .val zJ22_0] [(.int (1 : Int32))]))
      refine Go.of (fun _ q => XS.goto XJ22.here hx rfl (pc0 := 265) (pc' := 269) rfl (hb hby at_265) (by decide) (by decide) q) ?_
      show Go _ _ _ _ _ _ _ (TJ22.setTop (mkF m 269 #[.val (.int x1), .val (.int x2), .val (.int x3), .val (.int x4), .val (.ref al), .val (.int (0 : Int32)), .val (.int r), .val (.ref b0), .val (.ref b1), .val (.ref b2), .val (.int (0 : Int32)), .val (.int (0 : Int32)), .val (.int (0 : Int32)), .val (.ref a), .val got, .val zJ22_0] [(.int (1 : Int32))]))
      refine Go.retN XJ22 hx hlk (t := .boolean) hret (by simp) (hb hby at_269) rfl (by decide) (by decide) ?_
      rw [eJ22]
      exact ⟨rfl, NJ22⟩
    by_cases c206 : (own_w (0 : Int32) x1 (0 : Int32) x2 (0 : Int32) x3) = (0 : Int32)
    · refine Go.of (fun _ q => XS.ifYes X19.here hx rfl (pc0 := 206) (pc' := 216) rfl (hb hby at_206) rfl ((if0 _ _).trans (teq c206).1) (by decide) (by decide) q) ?_
      show Go _ _ _ _ _ _ _ (T19.setTop (mkF m 216 #[.val (.int x1), .val (.int x2), .val (.int x3), .val (.int x4), .val (.ref al), .val (.int (0 : Int32)), .val (.int r), .val (.ref b0), .val (.ref b1), .val (.ref b2), .val (.int (0 : Int32)), .val (.int (0 : Int32)), .val (.int (0 : Int32)), .val (.ref a), .val got, .val .null] []))
      refine Go.of (fun _ q => XS.iload X19.here hx rfl (hb hby at_216) rfl q) ?_
      show Go _ _ _ _ _ _ _ (T19.setTop (mkF m 218 #[.val (.int x1), .val (.int x2), .val (.int x3), .val (.int x4), .val (.ref al), .val (.int (0 : Int32)), .val (.int r), .val (.ref b0), .val (.ref b1), .val (.ref b2), .val (.int (0 : Int32)), .val (.int (0 : Int32)), .val (.int (0 : Int32)), .val (.ref a), .val got, .val .null] [(.int (0 : Int32))]))
      refine Go.of (fun _ q => XS.iloadN X19.here hx rfl (hb hby at_218) rfl q) ?_
      show Go _ _ _ _ _ _ _ (T19.setTop (mkF m 219 #[.val (.int x1), .val (.int x2), .val (.int x3), .val (.int x4), .val (.ref al), .val (.int (0 : Int32)), .val (.int r), .val (.ref b0), .val (.ref b1), .val (.ref b2), .val (.int (0 : Int32)), .val (.int (0 : Int32)), .val (.int (0 : Int32)), .val (.ref a), .val got, .val .null] [(.int x2), (.int (0 : Int32))]))
      refine Go.of (fun _ q => XS.iload X19.here hx rfl (hb hby at_219) rfl q) ?_
      show Go _ _ _ _ _ _ _ (T19.setTop (mkF m 221 #[.val (.int x1), .val (.int x2), .val (.int x3), .val (.int x4), .val (.ref al), .val (.int (0 : Int32)), .val (.int r), .val (.ref b0), .val (.ref b1), .val (.ref b2), .val (.int (0 : Int32)), .val (.int (0 : Int32)), .val (.int (0 : Int32)), .val (.ref a), .val got, .val .null] [(.int (0 : Int32)), (.int x2), (.int (0 : Int32))]))
      refine Go.of (fun _ q => XS.iloadN X19.here hx rfl (hb hby at_221) rfl q) ?_
      show Go _ _ _ _ _ _ _ (T19.setTop (mkF m 222 #[.val (.int x1), .val (.int x2), .val (.int x3), .val (.int x4), .val (.ref al), .val (.int (0 : Int32)), .val (.int r), .val (.ref b0), .val (.ref b1), .val (.ref b2), .val (.int (0 : Int32)), .val (.int (0 : Int32)), .val (.int (0 : Int32)), .val (.ref a), .val got, .val .null] [(.int x1), (.int (0 : Int32)), (.int x2), (.int (0 : Int32))]))
      refine Go.of (fun _ q => XS.iload X19.here hx rfl (hb hby at_222) rfl q) ?_
      show Go _ _ _ _ _ _ _ (T19.setTop (mkF m 224 #[.val (.int x1), .val (.int x2), .val (.int x3), .val (.int x4), .val (.ref al), .val (.int (0 : Int32)), .val (.int r), .val (.ref b0), .val (.ref b1), .val (.ref b2), .val (.int (0 : Int32)), .val (.int (0 : Int32)), .val (.int (0 : Int32)), .val (.ref a), .val got, .val .null] [(.int (0 : Int32)), (.int x1), (.int (0 : Int32)), (.int x2), (.int (0 : Int32))]))
      refine Go.of (fun _ q => XS.iloadN X19.here hx rfl (hb hby at_224) rfl q) ?_
      show Go _ _ _ _ _ _ _ (T19.setTop (mkF m 225 #[.val (.int x1), .val (.int x2), .val (.int x3), .val (.int x4), .val (.ref al), .val (.int (0 : Int32)), .val (.int r), .val (.ref b0), .val (.ref b1), .val (.ref b2), .val (.int (0 : Int32)), .val (.int (0 : Int32)), .val (.int (0 : Int32)), .val (.ref a), .val got, .val .null] [(.int x3), (.int (0 : Int32)), (.int x1), (.int (0 : Int32)), (.int x2), (.int (0 : Int32))]))
      refine Go.static X19 hx hZ (y := (⟨"com/example/tundra_ascent/tundraascent/rules/StrictlyMostCountPinLaw", "wins", "(ZIZIZI)Z"⟩ : MethodName)) (argsL := [(.int (0 : Int32)), (.int x2), (.int (0 : Int32)), (.int x1), (.int (0 : Int32)), (.int x3)]) hown (hw _ (List.mem_of_getElem? (i := 52) rfl)) (hw _ (List.mem_of_getElem? (i := 53) rfl)) (hw _ (List.mem_of_getElem? (i := 54) rfl)) (hw _ (List.mem_of_getElem? (i := 55) rfl)) (by decide) 0 e19 (rm7 l Z a0 hw (0 : Int32) x2 (0 : Int32) x1 (0 : Int32) x3 T16.heap n0 Zs ) (by decide) (by decide) (by decide) (by decide) (g := (mkF m 225 #[.val (.int x1), .val (.int x2), .val (.int x3), .val (.int x4), .val (.ref al), .val (.int (0 : Int32)), .val (.int r), .val (.ref b0), .val (.ref b1), .val (.ref b2), .val (.int (0 : Int32)), .val (.int (0 : Int32)), .val (.int (0 : Int32)), .val (.ref a), .val got, .val .null] [(.int x3), (.int (0 : Int32)), (.int x1), (.int (0 : Int32)), (.int x2), (.int (0 : Int32))])) rfl (by rw [hml]; rfl) (rest := []) (lenOf pd5 rfl) rfl (by show 2 * 0 + _ ≤ _; exact Nat.le_of_eq rfl) (hb hby at_225) ?_
      intro T20 v20 L20 X20 q20
      obtain ⟨rfl, Nq20, e20⟩ := q20
      have N20 := Fr.app N19 Nq20
      show Go _ _ _ _ _ _ _ (T20.setTop (mkF m 228 #[.val (.int x1), .val (.int x2), .val (.int x3), .val (.int x4), .val (.ref al), .val (.int (0 : Int32)), .val (.int r), .val (.ref b0), .val (.ref b1), .val (.ref b2), .val (.int (0 : Int32)), .val (.int (0 : Int32)), .val (.int (0 : Int32)), .val (.ref a), .val got, .val .null] [(.int (own_w (0 : Int32) x2 (0 : Int32) x1 (0 : Int32) x3))]))
      by_cases c228 : (own_w (0 : Int32) x2 (0 : Int32) x1 (0 : Int32) x3) = (0 : Int32)
      · refine Go.of (fun _ q => XS.ifYes X20.here hx rfl (pc0 := 228) (pc' := 238) rfl (hb hby at_228) rfl ((if0 _ _).trans (teq c228).1) (by decide) (by decide) q) ?_
        show Go _ _ _ _ _ _ _ (T20.setTop (mkF m 238 #[.val (.int x1), .val (.int x2), .val (.int x3), .val (.int x4), .val (.ref al), .val (.int (0 : Int32)), .val (.int r), .val (.ref b0), .val (.ref b1), .val (.ref b2), .val (.int (0 : Int32)), .val (.int (0 : Int32)), .val (.int (0 : Int32)), .val (.ref a), .val got, .val .null] []))
        refine Go.of (fun _ q => XS.iload X20.here hx rfl (hb hby at_238) rfl q) ?_
        show Go _ _ _ _ _ _ _ (T20.setTop (mkF m 240 #[.val (.int x1), .val (.int x2), .val (.int x3), .val (.int x4), .val (.ref al), .val (.int (0 : Int32)), .val (.int r), .val (.ref b0), .val (.ref b1), .val (.ref b2), .val (.int (0 : Int32)), .val (.int (0 : Int32)), .val (.int (0 : Int32)), .val (.ref a), .val got, .val .null] [(.int (0 : Int32))]))
        refine Go.of (fun _ q => XS.iloadN X20.here hx rfl (hb hby at_240) rfl q) ?_
        show Go _ _ _ _ _ _ _ (T20.setTop (mkF m 241 #[.val (.int x1), .val (.int x2), .val (.int x3), .val (.int x4), .val (.ref al), .val (.int (0 : Int32)), .val (.int r), .val (.ref b0), .val (.ref b1), .val (.ref b2), .val (.int (0 : Int32)), .val (.int (0 : Int32)), .val (.int (0 : Int32)), .val (.ref a), .val got, .val .null] [(.int x3), (.int (0 : Int32))]))
        refine Go.of (fun _ q => XS.iload X20.here hx rfl (hb hby at_241) rfl q) ?_
        show Go _ _ _ _ _ _ _ (T20.setTop (mkF m 243 #[.val (.int x1), .val (.int x2), .val (.int x3), .val (.int x4), .val (.ref al), .val (.int (0 : Int32)), .val (.int r), .val (.ref b0), .val (.ref b1), .val (.ref b2), .val (.int (0 : Int32)), .val (.int (0 : Int32)), .val (.int (0 : Int32)), .val (.ref a), .val got, .val .null] [(.int (0 : Int32)), (.int x3), (.int (0 : Int32))]))
        refine Go.of (fun _ q => XS.iloadN X20.here hx rfl (hb hby at_243) rfl q) ?_
        show Go _ _ _ _ _ _ _ (T20.setTop (mkF m 244 #[.val (.int x1), .val (.int x2), .val (.int x3), .val (.int x4), .val (.ref al), .val (.int (0 : Int32)), .val (.int r), .val (.ref b0), .val (.ref b1), .val (.ref b2), .val (.int (0 : Int32)), .val (.int (0 : Int32)), .val (.int (0 : Int32)), .val (.ref a), .val got, .val .null] [(.int x1), (.int (0 : Int32)), (.int x3), (.int (0 : Int32))]))
        refine Go.of (fun _ q => XS.iload X20.here hx rfl (hb hby at_244) rfl q) ?_
        show Go _ _ _ _ _ _ _ (T20.setTop (mkF m 246 #[.val (.int x1), .val (.int x2), .val (.int x3), .val (.int x4), .val (.ref al), .val (.int (0 : Int32)), .val (.int r), .val (.ref b0), .val (.ref b1), .val (.ref b2), .val (.int (0 : Int32)), .val (.int (0 : Int32)), .val (.int (0 : Int32)), .val (.ref a), .val got, .val .null] [(.int (0 : Int32)), (.int x1), (.int (0 : Int32)), (.int x3), (.int (0 : Int32))]))
        refine Go.of (fun _ q => XS.iloadN X20.here hx rfl (hb hby at_246) rfl q) ?_
        show Go _ _ _ _ _ _ _ (T20.setTop (mkF m 247 #[.val (.int x1), .val (.int x2), .val (.int x3), .val (.int x4), .val (.ref al), .val (.int (0 : Int32)), .val (.int r), .val (.ref b0), .val (.ref b1), .val (.ref b2), .val (.int (0 : Int32)), .val (.int (0 : Int32)), .val (.int (0 : Int32)), .val (.ref a), .val got, .val .null] [(.int x2), (.int (0 : Int32)), (.int x1), (.int (0 : Int32)), (.int x3), (.int (0 : Int32))]))
        refine Go.static X20 hx hZ (y := (⟨"com/example/tundra_ascent/tundraascent/rules/StrictlyMostCountPinLaw", "wins", "(ZIZIZI)Z"⟩ : MethodName)) (argsL := [(.int (0 : Int32)), (.int x3), (.int (0 : Int32)), (.int x1), (.int (0 : Int32)), (.int x2)]) hown (hw _ (List.mem_of_getElem? (i := 52) rfl)) (hw _ (List.mem_of_getElem? (i := 53) rfl)) (hw _ (List.mem_of_getElem? (i := 54) rfl)) (hw _ (List.mem_of_getElem? (i := 55) rfl)) (by decide) 0 e20 (rm7 l Z a0 hw (0 : Int32) x3 (0 : Int32) x1 (0 : Int32) x2 T16.heap n0 Zs ) (by decide) (by decide) (by decide) (by decide) (g := (mkF m 247 #[.val (.int x1), .val (.int x2), .val (.int x3), .val (.int x4), .val (.ref al), .val (.int (0 : Int32)), .val (.int r), .val (.ref b0), .val (.ref b1), .val (.ref b2), .val (.int (0 : Int32)), .val (.int (0 : Int32)), .val (.int (0 : Int32)), .val (.ref a), .val got, .val .null] [(.int x2), (.int (0 : Int32)), (.int x1), (.int (0 : Int32)), (.int x3), (.int (0 : Int32))])) rfl (by rw [hml]; rfl) (rest := []) (lenOf pd5 rfl) rfl (by show 2 * 0 + _ ≤ _; exact Nat.le_of_eq rfl) (hb hby at_247) ?_
        intro T21 v21 L21 X21 q21
        obtain ⟨rfl, Nq21, e21⟩ := q21
        have N21 := Fr.app N20 Nq21
        show Go _ _ _ _ _ _ _ (T21.setTop (mkF m 250 #[.val (.int x1), .val (.int x2), .val (.int x3), .val (.int x4), .val (.ref al), .val (.int (0 : Int32)), .val (.int r), .val (.ref b0), .val (.ref b1), .val (.ref b2), .val (.int (0 : Int32)), .val (.int (0 : Int32)), .val (.int (0 : Int32)), .val (.ref a), .val got, .val .null] [(.int (own_w (0 : Int32) x3 (0 : Int32) x1 (0 : Int32) x2))]))
        by_cases c250 : (own_w (0 : Int32) x3 (0 : Int32) x1 (0 : Int32) x2) = (0 : Int32)
        · refine Go.of (fun _ q => XS.ifYes X21.here hx rfl (pc0 := 250) (pc' := 257) rfl (hb hby at_250) rfl ((if0 _ _).trans (teq c250).1) (by decide) (by decide) q) ?_
          show Go _ _ _ _ _ _ _ (T21.setTop (mkF m 257 #[.val (.int x1), .val (.int x2), .val (.int x3), .val (.int x4), .val (.ref al), .val (.int (0 : Int32)), .val (.int r), .val (.ref b0), .val (.ref b1), .val (.ref b2), .val (.int (0 : Int32)), .val (.int (0 : Int32)), .val (.int (0 : Int32)), .val (.ref a), .val got, .val .null] []))
          exact J22 T21 _ _ (pad X21 (by decide) (by decide)) e21 N21 (by rw [if_pos c206, if_pos c228, if_pos c250]) rfl
        · refine Go.of (fun _ q => XS.ifNo X21.here hx rfl (hb hby at_250) rfl ((if0 _ _).trans (feq c250).1) q) ?_
          show Go _ _ _ _ _ _ _ (T21.setTop (mkF m 253 #[.val (.int x1), .val (.int x2), .val (.int x3), .val (.int x4), .val (.ref al), .val (.int (0 : Int32)), .val (.int r), .val (.ref b0), .val (.ref b1), .val (.ref b2), .val (.int (0 : Int32)), .val (.int (0 : Int32)), .val (.int (0 : Int32)), .val (.ref a), .val got, .val .null] []))
          refine Go.of (fun _ q => XS.aload X21.here hx rfl (hb hby at_253) rfl rfl q) ?_
          show Go _ _ _ _ _ _ _ (T21.setTop (mkF m 255 #[.val (.int x1), .val (.int x2), .val (.int x3), .val (.int x4), .val (.ref al), .val (.int (0 : Int32)), .val (.int r), .val (.ref b0), .val (.ref b1), .val (.ref b2), .val (.int (0 : Int32)), .val (.int (0 : Int32)), .val (.int (0 : Int32)), .val (.ref a), .val got, .val .null] [(.ref b2)]))
          refine Go.of (fun _ q => XS.astore X21.here hx rfl (hb hby at_255) rfl rfl (l' := #[.val (.int x1), .val (.int x2), .val (.int x3), .val (.int x4), .val (.ref al), .val (.int (0 : Int32)), .val (.int r), .val (.ref b0), .val (.ref b1), .val (.ref b2), .val (.int (0 : Int32)), .val (.int (0 : Int32)), .val (.int (0 : Int32)), .val (.ref a), .val got, .val (.ref b2)]) rfl q) ?_
          show Go _ _ _ _ _ _ _ (T21.setTop (mkF m 257 #[.val (.int x1), .val (.int x2), .val (.int x3), .val (.int x4), .val (.ref al), .val (.int (0 : Int32)), .val (.int r), .val (.ref b0), .val (.ref b1), .val (.ref b2), .val (.int (0 : Int32)), .val (.int (0 : Int32)), .val (.int (0 : Int32)), .val (.ref a), .val got, .val (.ref b2)] []))
          exact J22 T21 _ _ (pad X21 (by decide) (by decide)) e21 N21 (by rw [if_pos c206, if_pos c228, if_neg c250]) rfl
      · refine Go.of (fun _ q => XS.ifNo X20.here hx rfl (hb hby at_228) rfl ((if0 _ _).trans (feq c228).1) q) ?_
        show Go _ _ _ _ _ _ _ (T20.setTop (mkF m 231 #[.val (.int x1), .val (.int x2), .val (.int x3), .val (.int x4), .val (.ref al), .val (.int (0 : Int32)), .val (.int r), .val (.ref b0), .val (.ref b1), .val (.ref b2), .val (.int (0 : Int32)), .val (.int (0 : Int32)), .val (.int (0 : Int32)), .val (.ref a), .val got, .val .null] []))
        refine Go.of (fun _ q => XS.aload X20.here hx rfl (hb hby at_231) rfl rfl q) ?_
        show Go _ _ _ _ _ _ _ (T20.setTop (mkF m 233 #[.val (.int x1), .val (.int x2), .val (.int x3), .val (.int x4), .val (.ref al), .val (.int (0 : Int32)), .val (.int r), .val (.ref b0), .val (.ref b1), .val (.ref b2), .val (.int (0 : Int32)), .val (.int (0 : Int32)), .val (.int (0 : Int32)), .val (.ref a), .val got, .val .null] [(.ref b1)]))
        refine Go.of (fun _ q => XS.astore X20.here hx rfl (hb hby at_233) rfl rfl (l' := #[.val (.int x1), .val (.int x2), .val (.int x3), .val (.int x4), .val (.ref al), .val (.int (0 : Int32)), .val (.int r), .val (.ref b0), .val (.ref b1), .val (.ref b2), .val (.int (0 : Int32)), .val (.int (0 : Int32)), .val (.int (0 : Int32)), .val (.ref a), .val got, .val (.ref b1)]) rfl q) ?_
        show Go _ _ _ _ _ _ _ (T20.setTop (mkF m 235 #[.val (.int x1), .val (.int x2), .val (.int x3), .val (.int x4), .val (.ref al), .val (.int (0 : Int32)), .val (.int r), .val (.ref b0), .val (.ref b1), .val (.ref b2), .val (.int (0 : Int32)), .val (.int (0 : Int32)), .val (.int (0 : Int32)), .val (.ref a), .val got, .val (.ref b1)] []))
        refine Go.of (fun _ q => XS.goto X20.here hx rfl (pc0 := 235) (pc' := 257) rfl (hb hby at_235) (by decide) (by decide) q) ?_
        show Go _ _ _ _ _ _ _ (T20.setTop (mkF m 257 #[.val (.int x1), .val (.int x2), .val (.int x3), .val (.int x4), .val (.ref al), .val (.int (0 : Int32)), .val (.int r), .val (.ref b0), .val (.ref b1), .val (.ref b2), .val (.int (0 : Int32)), .val (.int (0 : Int32)), .val (.int (0 : Int32)), .val (.ref a), .val got, .val (.ref b1)] []))
        exact J22 T20 _ _ (pad X20 (by decide) (by decide)) e20 N20 (by rw [if_pos c206, if_neg c228]) rfl
    · refine Go.of (fun _ q => XS.ifNo X19.here hx rfl (hb hby at_206) rfl ((if0 _ _).trans (feq c206).1) q) ?_
      show Go _ _ _ _ _ _ _ (T19.setTop (mkF m 209 #[.val (.int x1), .val (.int x2), .val (.int x3), .val (.int x4), .val (.ref al), .val (.int (0 : Int32)), .val (.int r), .val (.ref b0), .val (.ref b1), .val (.ref b2), .val (.int (0 : Int32)), .val (.int (0 : Int32)), .val (.int (0 : Int32)), .val (.ref a), .val got, .val .null] []))
      refine Go.of (fun _ q => XS.aload X19.here hx rfl (hb hby at_209) rfl rfl q) ?_
      show Go _ _ _ _ _ _ _ (T19.setTop (mkF m 211 #[.val (.int x1), .val (.int x2), .val (.int x3), .val (.int x4), .val (.ref al), .val (.int (0 : Int32)), .val (.int r), .val (.ref b0), .val (.ref b1), .val (.ref b2), .val (.int (0 : Int32)), .val (.int (0 : Int32)), .val (.int (0 : Int32)), .val (.ref a), .val got, .val .null] [(.ref b0)]))
      refine Go.of (fun _ q => XS.astore X19.here hx rfl (hb hby at_211) rfl rfl (l' := #[.val (.int x1), .val (.int x2), .val (.int x3), .val (.int x4), .val (.ref al), .val (.int (0 : Int32)), .val (.int r), .val (.ref b0), .val (.ref b1), .val (.ref b2), .val (.int (0 : Int32)), .val (.int (0 : Int32)), .val (.int (0 : Int32)), .val (.ref a), .val got, .val (.ref b0)]) rfl q) ?_
      show Go _ _ _ _ _ _ _ (T19.setTop (mkF m 213 #[.val (.int x1), .val (.int x2), .val (.int x3), .val (.int x4), .val (.ref al), .val (.int (0 : Int32)), .val (.int r), .val (.ref b0), .val (.ref b1), .val (.ref b2), .val (.int (0 : Int32)), .val (.int (0 : Int32)), .val (.int (0 : Int32)), .val (.ref a), .val got, .val (.ref b0)] []))
      refine Go.of (fun _ q => XS.goto X19.here hx rfl (pc0 := 213) (pc' := 257) rfl (hb hby at_213) (by decide) (by decide) q) ?_
      show Go _ _ _ _ _ _ _ (T19.setTop (mkF m 257 #[.val (.int x1), .val (.int x2), .val (.int x3), .val (.int x4), .val (.ref al), .val (.int (0 : Int32)), .val (.int r), .val (.ref b0), .val (.ref b1), .val (.ref b2), .val (.int (0 : Int32)), .val (.int (0 : Int32)), .val (.int (0 : Int32)), .val (.ref a), .val got, .val (.ref b0)] []))
      exact J22 T19 _ _ (pad X19 (by decide) (by decide)) e19 N19 (by rw [if_neg c206]) rfl
  · rw [q3]
    show Go _ _ _ _ _ _ _ (T13.setTop (mkF m 46 #[.val (.int x1), .val (.int x2), .val (.int x3), .val (.int x4), .val (.ref al), .unset, .unset, .unset, .unset, .unset, .unset, .unset, .unset, .unset, .unset, .unset] [(.int (1 : Int32))]))
    refine Go.of (fun _ q => XS.istore X13.here hx rfl (hb hby at_46) rfl (l' := #[.val (.int x1), .val (.int x2), .val (.int x3), .val (.int x4), .val (.ref al), .val (.int (1 : Int32)), .unset, .unset, .unset, .unset, .unset, .unset, .unset, .unset, .unset, .unset]) rfl q) ?_
    show Go _ _ _ _ _ _ _ (T13.setTop (mkF m 48 #[.val (.int x1), .val (.int x2), .val (.int x3), .val (.int x4), .val (.ref al), .val (.int (1 : Int32)), .unset, .unset, .unset, .unset, .unset, .unset, .unset, .unset, .unset, .unset] []))
    refine Go.of (fun _ q => XS.iloadN X13.here hx rfl (hb hby at_48) rfl q) ?_
    show Go _ _ _ _ _ _ _ (T13.setTop (mkF m 49 #[.val (.int x1), .val (.int x2), .val (.int x3), .val (.int x4), .val (.ref al), .val (.int (1 : Int32)), .unset, .unset, .unset, .unset, .unset, .unset, .unset, .unset, .unset, .unset] [(.int x4)]))
    refine Go.of (fun _ q => XS.iconst X13.here hx rfl (hb hby at_49) q) ?_
    show Go _ _ _ _ _ _ _ (T13.setTop (mkF m 50 #[.val (.int x1), .val (.int x2), .val (.int x3), .val (.int x4), .val (.ref al), .val (.int (1 : Int32)), .unset, .unset, .unset, .unset, .unset, .unset, .unset, .unset, .unset, .unset] [(.int (2 : Int32)), (.int x4)]))
    refine Go.of (fun _ q => XS.iushr X13.here hx rfl (hb hby at_50) rfl q) ?_
    show Go _ _ _ _ _ _ _ (T13.setTop (mkF m 51 #[.val (.int x1), .val (.int x2), .val (.int x3), .val (.int x4), .val (.ref al), .val (.int (1 : Int32)), .unset, .unset, .unset, .unset, .unset, .unset, .unset, .unset, .unset, .unset] [(.int ((x4.toUInt32 >>> ((2 : Int32) &&& 31).toUInt32).toInt32))]))
    refine Go.of (fun _ q => X13.ldcInt hx hown (mvT hZ (hw _ (List.mem_of_getElem? (i := 16) rfl))) (g := (mkF m 51 #[.val (.int x1), .val (.int x2), .val (.int x3), .val (.int x4), .val (.ref al), .val (.int (1 : Int32)), .unset, .unset, .unset, .unset, .unset, .unset, .unset, .unset, .unset, .unset] [(.int ((x4.toUInt32 >>> ((2 : Int32) &&& 31).toUInt32).toInt32))])) rfl (hb hby at_51) _ q) ?_
    show Go _ _ _ _ _ _ _ (T13.setTop (mkF m 53 #[.val (.int x1), .val (.int x2), .val (.int x3), .val (.int x4), .val (.ref al), .val (.int (1 : Int32)), .unset, .unset, .unset, .unset, .unset, .unset, .unset, .unset, .unset, .unset] [(.int (2147483647 : Int32)), (.int ((x4.toUInt32 >>> ((2 : Int32) &&& 31).toUInt32).toInt32))]))
    refine Go.of (fun _ q => XS.iand X13.here hx rfl (hb hby at_53) rfl q) ?_
    show Go _ _ _ _ _ _ _ (T13.setTop (mkF m 54 #[.val (.int x1), .val (.int x2), .val (.int x3), .val (.int x4), .val (.ref al), .val (.int (1 : Int32)), .unset, .unset, .unset, .unset, .unset, .unset, .unset, .unset, .unset, .unset] [(.int (((x4.toUInt32 >>> ((2 : Int32) &&& 31).toUInt32).toInt32) &&& (2147483647 : Int32)))]))
    refine Go.of (fun _ q => XS.bipush X13.here hx rfl (hb hby at_54) q) ?_
    show Go _ _ _ _ _ _ _ (T13.setTop (mkF m 56 #[.val (.int x1), .val (.int x2), .val (.int x3), .val (.int x4), .val (.ref al), .val (.int (1 : Int32)), .unset, .unset, .unset, .unset, .unset, .unset, .unset, .unset, .unset, .unset] [(.int (6 : Int32)), (.int (((x4.toUInt32 >>> ((2 : Int32) &&& 31).toUInt32).toInt32) &&& (2147483647 : Int32)))]))
    refine Go.of (fun _ q => iremM X13 hx rfl (hb hby at_56) rfl (by decide) q) ?_
    show Go _ _ _ _ _ _ _ (T13.setTop (mkF m 57 #[.val (.int x1), .val (.int x2), .val (.int x3), .val (.int x4), .val (.ref al), .val (.int (1 : Int32)), .unset, .unset, .unset, .unset, .unset, .unset, .unset, .unset, .unset, .unset] [(.int ((((x4.toUInt32 >>> ((2 : Int32) &&& 31).toUInt32).toInt32) &&& (2147483647 : Int32)) % (6 : Int32)))]))
    refine Go.of (fun _ q => XS.istore X13.here hx rfl (hb hby at_57) rfl (l' := #[.val (.int x1), .val (.int x2), .val (.int x3), .val (.int x4), .val (.ref al), .val (.int (1 : Int32)), .val (.int ((((x4.toUInt32 >>> ((2 : Int32) &&& 31).toUInt32).toInt32) &&& (2147483647 : Int32)) % (6 : Int32))), .unset, .unset, .unset, .unset, .unset, .unset, .unset, .unset, .unset]) rfl q) ?_
    obtain ⟨r, hr⟩ : ∃ z, z = ((((x4.toUInt32 >>> ((2 : Int32) &&& 31).toUInt32).toInt32) &&& (2147483647 : Int32)) % (6 : Int32)) := ⟨_, rfl⟩
    rw [← hr]
    show Go _ _ _ _ _ _ _ (T13.setTop (mkF m 59 #[.val (.int x1), .val (.int x2), .val (.int x3), .val (.int x4), .val (.ref al), .val (.int (1 : Int32)), .val (.int r), .unset, .unset, .unset, .unset, .unset, .unset, .unset, .unset, .unset] []))
    refine Go.of (fun _ q => XS.aload X13.here hx rfl (hb hby at_59) rfl rfl q) ?_
    show Go _ _ _ _ _ _ _ (T13.setTop (mkF m 61 #[.val (.int x1), .val (.int x2), .val (.int x3), .val (.int x4), .val (.ref al), .val (.int (1 : Int32)), .val (.int r), .unset, .unset, .unset, .unset, .unset, .unset, .unset, .unset, .unset] [(.ref al)]))
    refine Go.of (fun _ q => XS.iload X13.here hx rfl (hb hby at_61) rfl q) ?_
    have rr0 := own_irem ((((x4.toUInt32 >>> ((2 : Int32) &&& 31).toUInt32).toInt32) &&& (2147483647 : Int32))) (6 : Int32) (own_mask _).1 rfl
    rw [← hr] at rr0
    have ix0 := rr0.1
    obtain ⟨b0, hb0, E_b0⟩ := own_pick (Exa.ext Od.2 E_0) (Exa.ext Od.2 E_1) (Exa.ext Od.2 E_2) (Exa.ext Od.2 E_3) (Exa.ext Od.2 E_4) (Exa.ext Od.2 E_5) _ ix0.2.2
    show Go _ _ _ _ _ _ _ (T13.setTop (mkF m 63 #[.val (.int x1), .val (.int x2), .val (.int x3), .val (.int x4), .val (.ref al), .val (.int (1 : Int32)), .val (.int r), .unset, .unset, .unset, .unset, .unset, .unset, .unset, .unset, .unset] [(.int r), (.ref al)]))
    refine Go.of (fun _ q => AF.aaload A_al rfl X13 hx hZ e13 ix0 (v := (.ref b0)) hb0 (g := (mkF m 63 #[.val (.int x1), .val (.int x2), .val (.int x3), .val (.int x4), .val (.ref al), .val (.int (1 : Int32)), .val (.int r), .unset, .unset, .unset, .unset, .unset, .unset, .unset, .unset, .unset] [(.int r), (.ref al)])) rfl rfl (hb hby at_63) q) ?_
    show Go _ _ _ _ _ _ _ (T13.setTop (mkF m 64 #[.val (.int x1), .val (.int x2), .val (.int x3), .val (.int x4), .val (.ref al), .val (.int (1 : Int32)), .val (.int r), .unset, .unset, .unset, .unset, .unset, .unset, .unset, .unset, .unset] [(.ref b0)]))
    refine Go.of (fun _ q => XS.astore X13.here hx rfl (hb hby at_64) rfl rfl (l' := #[.val (.int x1), .val (.int x2), .val (.int x3), .val (.int x4), .val (.ref al), .val (.int (1 : Int32)), .val (.int r), .val (.ref b0), .unset, .unset, .unset, .unset, .unset, .unset, .unset, .unset]) rfl q) ?_
    show Go _ _ _ _ _ _ _ (T13.setTop (mkF m 66 #[.val (.int x1), .val (.int x2), .val (.int x3), .val (.int x4), .val (.ref al), .val (.int (1 : Int32)), .val (.int r), .val (.ref b0), .unset, .unset, .unset, .unset, .unset, .unset, .unset, .unset] []))
    refine Go.of (fun _ q => XS.aload X13.here hx rfl (hb hby at_66) rfl rfl q) ?_
    show Go _ _ _ _ _ _ _ (T13.setTop (mkF m 68 #[.val (.int x1), .val (.int x2), .val (.int x3), .val (.int x4), .val (.ref al), .val (.int (1 : Int32)), .val (.int r), .val (.ref b0), .unset, .unset, .unset, .unset, .unset, .unset, .unset, .unset] [(.ref al)]))
    refine Go.of (fun _ q => XS.iload X13.here hx rfl (hb hby at_68) rfl q) ?_
    show Go _ _ _ _ _ _ _ (T13.setTop (mkF m 70 #[.val (.int x1), .val (.int x2), .val (.int x3), .val (.int x4), .val (.ref al), .val (.int (1 : Int32)), .val (.int r), .val (.ref b0), .unset, .unset, .unset, .unset, .unset, .unset, .unset, .unset] [(.int r), (.ref al)]))
    refine Go.of (fun _ q => XS.iconst X13.here hx rfl (hb hby at_70) q) ?_
    show Go _ _ _ _ _ _ _ (T13.setTop (mkF m 71 #[.val (.int x1), .val (.int x2), .val (.int x3), .val (.int x4), .val (.ref al), .val (.int (1 : Int32)), .val (.int r), .val (.ref b0), .unset, .unset, .unset, .unset, .unset, .unset, .unset, .unset] [(.int (1 : Int32)), (.int r), (.ref al)]))
    refine Go.of (fun _ q => XS.iadd X13.here hx rfl (hb hby at_71) rfl q) ?_
    show Go _ _ _ _ _ _ _ (T13.setTop (mkF m 72 #[.val (.int x1), .val (.int x2), .val (.int x3), .val (.int x4), .val (.ref al), .val (.int (1 : Int32)), .val (.int r), .val (.ref b0), .unset, .unset, .unset, .unset, .unset, .unset, .unset, .unset] [(.int (r + (1 : Int32))), (.ref al)]))
    refine Go.of (fun _ q => XS.bipush X13.here hx rfl (hb hby at_72) q) ?_
    show Go _ _ _ _ _ _ _ (T13.setTop (mkF m 74 #[.val (.int x1), .val (.int x2), .val (.int x3), .val (.int x4), .val (.ref al), .val (.int (1 : Int32)), .val (.int r), .val (.ref b0), .unset, .unset, .unset, .unset, .unset, .unset, .unset, .unset] [(.int (6 : Int32)), (.int (r + (1 : Int32))), (.ref al)]))
    refine Go.of (fun _ q => iremM X13 hx rfl (hb hby at_74) rfl (by decide) q) ?_
    have ix1 := (own_irem (r + (1 : Int32)) (6 : Int32) (own_add r (1 : Int32) 1 (by decide) rr0.2.1 rr0.2.2 (by decide)).1 rfl).1
    obtain ⟨b1, hb1, E_b1⟩ := own_pick (Exa.ext Od.2 E_0) (Exa.ext Od.2 E_1) (Exa.ext Od.2 E_2) (Exa.ext Od.2 E_3) (Exa.ext Od.2 E_4) (Exa.ext Od.2 E_5) _ ix1.2.2
    show Go _ _ _ _ _ _ _ (T13.setTop (mkF m 75 #[.val (.int x1), .val (.int x2), .val (.int x3), .val (.int x4), .val (.ref al), .val (.int (1 : Int32)), .val (.int r), .val (.ref b0), .unset, .unset, .unset, .unset, .unset, .unset, .unset, .unset] [(.int ((r + (1 : Int32)) % (6 : Int32))), (.ref al)]))
    refine Go.of (fun _ q => AF.aaload A_al rfl X13 hx hZ e13 ix1 (v := (.ref b1)) hb1 (g := (mkF m 75 #[.val (.int x1), .val (.int x2), .val (.int x3), .val (.int x4), .val (.ref al), .val (.int (1 : Int32)), .val (.int r), .val (.ref b0), .unset, .unset, .unset, .unset, .unset, .unset, .unset, .unset] [(.int ((r + (1 : Int32)) % (6 : Int32))), (.ref al)])) rfl rfl (hb hby at_75) q) ?_
    show Go _ _ _ _ _ _ _ (T13.setTop (mkF m 76 #[.val (.int x1), .val (.int x2), .val (.int x3), .val (.int x4), .val (.ref al), .val (.int (1 : Int32)), .val (.int r), .val (.ref b0), .unset, .unset, .unset, .unset, .unset, .unset, .unset, .unset] [(.ref b1)]))
    refine Go.of (fun _ q => XS.astore X13.here hx rfl (hb hby at_76) rfl rfl (l' := #[.val (.int x1), .val (.int x2), .val (.int x3), .val (.int x4), .val (.ref al), .val (.int (1 : Int32)), .val (.int r), .val (.ref b0), .val (.ref b1), .unset, .unset, .unset, .unset, .unset, .unset, .unset]) rfl q) ?_
    show Go _ _ _ _ _ _ _ (T13.setTop (mkF m 78 #[.val (.int x1), .val (.int x2), .val (.int x3), .val (.int x4), .val (.ref al), .val (.int (1 : Int32)), .val (.int r), .val (.ref b0), .val (.ref b1), .unset, .unset, .unset, .unset, .unset, .unset, .unset] []))
    refine Go.of (fun _ q => XS.aload X13.here hx rfl (hb hby at_78) rfl rfl q) ?_
    show Go _ _ _ _ _ _ _ (T13.setTop (mkF m 80 #[.val (.int x1), .val (.int x2), .val (.int x3), .val (.int x4), .val (.ref al), .val (.int (1 : Int32)), .val (.int r), .val (.ref b0), .val (.ref b1), .unset, .unset, .unset, .unset, .unset, .unset, .unset] [(.ref al)]))
    refine Go.of (fun _ q => XS.iload X13.here hx rfl (hb hby at_80) rfl q) ?_
    show Go _ _ _ _ _ _ _ (T13.setTop (mkF m 82 #[.val (.int x1), .val (.int x2), .val (.int x3), .val (.int x4), .val (.ref al), .val (.int (1 : Int32)), .val (.int r), .val (.ref b0), .val (.ref b1), .unset, .unset, .unset, .unset, .unset, .unset, .unset] [(.int r), (.ref al)]))
    refine Go.of (fun _ q => XS.iconst X13.here hx rfl (hb hby at_82) q) ?_
    show Go _ _ _ _ _ _ _ (T13.setTop (mkF m 83 #[.val (.int x1), .val (.int x2), .val (.int x3), .val (.int x4), .val (.ref al), .val (.int (1 : Int32)), .val (.int r), .val (.ref b0), .val (.ref b1), .unset, .unset, .unset, .unset, .unset, .unset, .unset] [(.int (2 : Int32)), (.int r), (.ref al)]))
    refine Go.of (fun _ q => XS.iadd X13.here hx rfl (hb hby at_83) rfl q) ?_
    show Go _ _ _ _ _ _ _ (T13.setTop (mkF m 84 #[.val (.int x1), .val (.int x2), .val (.int x3), .val (.int x4), .val (.ref al), .val (.int (1 : Int32)), .val (.int r), .val (.ref b0), .val (.ref b1), .unset, .unset, .unset, .unset, .unset, .unset, .unset] [(.int (r + (2 : Int32))), (.ref al)]))
    refine Go.of (fun _ q => XS.bipush X13.here hx rfl (hb hby at_84) q) ?_
    show Go _ _ _ _ _ _ _ (T13.setTop (mkF m 86 #[.val (.int x1), .val (.int x2), .val (.int x3), .val (.int x4), .val (.ref al), .val (.int (1 : Int32)), .val (.int r), .val (.ref b0), .val (.ref b1), .unset, .unset, .unset, .unset, .unset, .unset, .unset] [(.int (6 : Int32)), (.int (r + (2 : Int32))), (.ref al)]))
    refine Go.of (fun _ q => iremM X13 hx rfl (hb hby at_86) rfl (by decide) q) ?_
    have ix2 := (own_irem (r + (2 : Int32)) (6 : Int32) (own_add r (2 : Int32) 2 (by decide) rr0.2.1 rr0.2.2 (by decide)).1 rfl).1
    obtain ⟨b2, hb2, E_b2⟩ := own_pick (Exa.ext Od.2 E_0) (Exa.ext Od.2 E_1) (Exa.ext Od.2 E_2) (Exa.ext Od.2 E_3) (Exa.ext Od.2 E_4) (Exa.ext Od.2 E_5) _ ix2.2.2
    show Go _ _ _ _ _ _ _ (T13.setTop (mkF m 87 #[.val (.int x1), .val (.int x2), .val (.int x3), .val (.int x4), .val (.ref al), .val (.int (1 : Int32)), .val (.int r), .val (.ref b0), .val (.ref b1), .unset, .unset, .unset, .unset, .unset, .unset, .unset] [(.int ((r + (2 : Int32)) % (6 : Int32))), (.ref al)]))
    refine Go.of (fun _ q => AF.aaload A_al rfl X13 hx hZ e13 ix2 (v := (.ref b2)) hb2 (g := (mkF m 87 #[.val (.int x1), .val (.int x2), .val (.int x3), .val (.int x4), .val (.ref al), .val (.int (1 : Int32)), .val (.int r), .val (.ref b0), .val (.ref b1), .unset, .unset, .unset, .unset, .unset, .unset, .unset] [(.int ((r + (2 : Int32)) % (6 : Int32))), (.ref al)])) rfl rfl (hb hby at_87) q) ?_
    show Go _ _ _ _ _ _ _ (T13.setTop (mkF m 88 #[.val (.int x1), .val (.int x2), .val (.int x3), .val (.int x4), .val (.ref al), .val (.int (1 : Int32)), .val (.int r), .val (.ref b0), .val (.ref b1), .unset, .unset, .unset, .unset, .unset, .unset, .unset] [(.ref b2)]))
    refine Go.of (fun _ q => XS.astore X13.here hx rfl (hb hby at_88) rfl rfl (l' := #[.val (.int x1), .val (.int x2), .val (.int x3), .val (.int x4), .val (.ref al), .val (.int (1 : Int32)), .val (.int r), .val (.ref b0), .val (.ref b1), .val (.ref b2), .unset, .unset, .unset, .unset, .unset, .unset]) rfl q) ?_
    show Go _ _ _ _ _ _ _ (T13.setTop (mkF m 90 #[.val (.int x1), .val (.int x2), .val (.int x3), .val (.int x4), .val (.ref al), .val (.int (1 : Int32)), .val (.int r), .val (.ref b0), .val (.ref b1), .val (.ref b2), .unset, .unset, .unset, .unset, .unset, .unset] []))
    refine Go.of (fun _ q => XS.iload X13.here hx rfl (hb hby at_90) rfl q) ?_
    show Go _ _ _ _ _ _ _ (T13.setTop (mkF m 92 #[.val (.int x1), .val (.int x2), .val (.int x3), .val (.int x4), .val (.ref al), .val (.int (1 : Int32)), .val (.int r), .val (.ref b0), .val (.ref b1), .val (.ref b2), .unset, .unset, .unset, .unset, .unset, .unset] [(.int (1 : Int32))]))
    refine Go.of (fun _ q => XS.iconst X13.here hx rfl (hb hby at_92) q) ?_
    show Go _ _ _ _ _ _ _ (T13.setTop (mkF m 93 #[.val (.int x1), .val (.int x2), .val (.int x3), .val (.int x4), .val (.ref al), .val (.int (1 : Int32)), .val (.int r), .val (.ref b0), .val (.ref b1), .val (.ref b2), .unset, .unset, .unset, .unset, .unset, .unset] [(.int (1 : Int32)), (.int (1 : Int32))]))
    refine Go.of (fun _ q => XS.icmpNo X13.here hx rfl (hb hby at_93) rfl (flt (by decide)).1 q) ?_
    show Go _ _ _ _ _ _ _ (T13.setTop (mkF m 96 #[.val (.int x1), .val (.int x2), .val (.int x3), .val (.int x4), .val (.ref al), .val (.int (1 : Int32)), .val (.int r), .val (.ref b0), .val (.ref b1), .val (.ref b2), .unset, .unset, .unset, .unset, .unset, .unset] []))
    refine Go.of (fun _ q => XS.iconst X13.here hx rfl (hb hby at_96) q) ?_
    show Go _ _ _ _ _ _ _ (T13.setTop (mkF m 97 #[.val (.int x1), .val (.int x2), .val (.int x3), .val (.int x4), .val (.ref al), .val (.int (1 : Int32)), .val (.int r), .val (.ref b0), .val (.ref b1), .val (.ref b2), .unset, .unset, .unset, .unset, .unset, .unset] [(.int (1 : Int32))]))
    refine Go.of (fun _ q => XS.goto X13.here hx rfl (pc0 := 97) (pc' := 101) rfl (hb hby at_97) (by decide) (by decide) q) ?_
    show Go _ _ _ _ _ _ _ (T13.setTop (mkF m 101 #[.val (.int x1), .val (.int x2), .val (.int x3), .val (.int x4), .val (.ref al), .val (.int (1 : Int32)), .val (.int r), .val (.ref b0), .val (.ref b1), .val (.ref b2), .unset, .unset, .unset, .unset, .unset, .unset] [(.int (1 : Int32))]))
    refine Go.of (fun _ q => XS.istore X13.here hx rfl (hb hby at_101) rfl (l' := #[.val (.int x1), .val (.int x2), .val (.int x3), .val (.int x4), .val (.ref al), .val (.int (1 : Int32)), .val (.int r), .val (.ref b0), .val (.ref b1), .val (.ref b2), .val (.int (1 : Int32)), .unset, .unset, .unset, .unset, .unset]) rfl q) ?_
    show Go _ _ _ _ _ _ _ (T13.setTop (mkF m 103 #[.val (.int x1), .val (.int x2), .val (.int x3), .val (.int x4), .val (.ref al), .val (.int (1 : Int32)), .val (.int r), .val (.ref b0), .val (.ref b1), .val (.ref b2), .val (.int (1 : Int32)), .unset, .unset, .unset, .unset, .unset] []))
    refine Go.of (fun _ q => XS.iload X13.here hx rfl (hb hby at_103) rfl q) ?_
    show Go _ _ _ _ _ _ _ (T13.setTop (mkF m 105 #[.val (.int x1), .val (.int x2), .val (.int x3), .val (.int x4), .val (.ref al), .val (.int (1 : Int32)), .val (.int r), .val (.ref b0), .val (.ref b1), .val (.ref b2), .val (.int (1 : Int32)), .unset, .unset, .unset, .unset, .unset] [(.int (1 : Int32))]))
    refine Go.of (fun _ q => XS.iconst X13.here hx rfl (hb hby at_105) q) ?_
    show Go _ _ _ _ _ _ _ (T13.setTop (mkF m 106 #[.val (.int x1), .val (.int x2), .val (.int x3), .val (.int x4), .val (.ref al), .val (.int (1 : Int32)), .val (.int r), .val (.ref b0), .val (.ref b1), .val (.ref b2), .val (.int (1 : Int32)), .unset, .unset, .unset, .unset, .unset] [(.int (2 : Int32)), (.int (1 : Int32))]))
    refine Go.of (fun _ q => XS.icmpYes X13.here hx rfl (pc0 := 106) (pc' := 113) rfl (hb hby at_106) rfl (tlt (by decide)).1 (by decide) (by decide) q) ?_
    show Go _ _ _ _ _ _ _ (T13.setTop (mkF m 113 #[.val (.int x1), .val (.int x2), .val (.int x3), .val (.int x4), .val (.ref al), .val (.int (1 : Int32)), .val (.int r), .val (.ref b0), .val (.ref b1), .val (.ref b2), .val (.int (1 : Int32)), .unset, .unset, .unset, .unset, .unset] []))
    refine Go.of (fun _ q => XS.iconst X13.here hx rfl (hb hby at_113) q) ?_
    show Go _ _ _ _ _ _ _ (T13.setTop (mkF m 114 #[.val (.int x1), .val (.int x2), .val (.int x3), .val (.int x4), .val (.ref al), .val (.int (1 : Int32)), .val (.int r), .val (.ref b0), .val (.ref b1), .val (.ref b2), .val (.int (1 : Int32)), .unset, .unset, .unset, .unset, .unset] [(.int (0 : Int32))]))
    refine Go.of (fun _ q => XS.istore X13.here hx rfl (hb hby at_114) rfl (l' := #[.val (.int x1), .val (.int x2), .val (.int x3), .val (.int x4), .val (.ref al), .val (.int (1 : Int32)), .val (.int r), .val (.ref b0), .val (.ref b1), .val (.ref b2), .val (.int (1 : Int32)), .val (.int (0 : Int32)), .unset, .unset, .unset, .unset]) rfl q) ?_
    show Go _ _ _ _ _ _ _ (T13.setTop (mkF m 116 #[.val (.int x1), .val (.int x2), .val (.int x3), .val (.int x4), .val (.ref al), .val (.int (1 : Int32)), .val (.int r), .val (.ref b0), .val (.ref b1), .val (.ref b2), .val (.int (1 : Int32)), .val (.int (0 : Int32)), .unset, .unset, .unset, .unset] []))
    refine Go.of (fun _ q => XS.iload X13.here hx rfl (hb hby at_116) rfl q) ?_
    show Go _ _ _ _ _ _ _ (T13.setTop (mkF m 118 #[.val (.int x1), .val (.int x2), .val (.int x3), .val (.int x4), .val (.ref al), .val (.int (1 : Int32)), .val (.int r), .val (.ref b0), .val (.ref b1), .val (.ref b2), .val (.int (1 : Int32)), .val (.int (0 : Int32)), .unset, .unset, .unset, .unset] [(.int (1 : Int32))]))
    refine Go.of (fun _ q => XS.iconst X13.here hx rfl (hb hby at_118) q) ?_
    show Go _ _ _ _ _ _ _ (T13.setTop (mkF m 119 #[.val (.int x1), .val (.int x2), .val (.int x3), .val (.int x4), .val (.ref al), .val (.int (1 : Int32)), .val (.int r), .val (.ref b0), .val (.ref b1), .val (.ref b2), .val (.int (1 : Int32)), .val (.int (0 : Int32)), .unset, .unset, .unset, .unset] [(.int (3 : Int32)), (.int (1 : Int32))]))
    refine Go.of (fun _ q => XS.icmpYes X13.here hx rfl (pc0 := 119) (pc' := 126) rfl (hb hby at_119) rfl (tlt (by decide)).1 (by decide) (by decide) q) ?_
    show Go _ _ _ _ _ _ _ (T13.setTop (mkF m 126 #[.val (.int x1), .val (.int x2), .val (.int x3), .val (.int x4), .val (.ref al), .val (.int (1 : Int32)), .val (.int r), .val (.ref b0), .val (.ref b1), .val (.ref b2), .val (.int (1 : Int32)), .val (.int (0 : Int32)), .unset, .unset, .unset, .unset] []))
    refine Go.of (fun _ q => XS.iconst X13.here hx rfl (hb hby at_126) q) ?_
    show Go _ _ _ _ _ _ _ (T13.setTop (mkF m 127 #[.val (.int x1), .val (.int x2), .val (.int x3), .val (.int x4), .val (.ref al), .val (.int (1 : Int32)), .val (.int r), .val (.ref b0), .val (.ref b1), .val (.ref b2), .val (.int (1 : Int32)), .val (.int (0 : Int32)), .unset, .unset, .unset, .unset] [(.int (0 : Int32))]))
    refine Go.of (fun _ q => XS.istore X13.here hx rfl (hb hby at_127) rfl (l' := #[.val (.int x1), .val (.int x2), .val (.int x3), .val (.int x4), .val (.ref al), .val (.int (1 : Int32)), .val (.int r), .val (.ref b0), .val (.ref b1), .val (.ref b2), .val (.int (1 : Int32)), .val (.int (0 : Int32)), .val (.int (0 : Int32)), .unset, .unset, .unset]) rfl q) ?_
    show Go _ _ _ _ _ _ _ (T13.setTop (mkF m 129 #[.val (.int x1), .val (.int x2), .val (.int x3), .val (.int x4), .val (.ref al), .val (.int (1 : Int32)), .val (.int r), .val (.ref b0), .val (.ref b1), .val (.ref b2), .val (.int (1 : Int32)), .val (.int (0 : Int32)), .val (.int (0 : Int32)), .unset, .unset, .unset] []))
    obtain ⟨T23, h23, X23, e23, E23, A23, D23, -, st23⟩ := newO X13 hx hZ hown (hw _ (List.mem_of_getElem? (i := 17) rfl)) (hw _ (List.mem_of_getElem? (i := 18) rfl)) (hw _ (List.mem_of_getElem? (i := 19) rfl)) e13 (g := (mkF m 129 #[.val (.int x1), .val (.int x2), .val (.int x3), .val (.int x4), .val (.ref al), .val (.int (1 : Int32)), .val (.int r), .val (.ref b0), .val (.ref b1), .val (.ref b2), .val (.int (1 : Int32)), .val (.int (0 : Int32)), .val (.int (0 : Int32)), .unset, .unset, .unset] [])) rfl (hb hby at_129) (by decide) (by decide)
    obtain ⟨a, g23⟩ : ∃ z, z = h13.size := ⟨_, rfl⟩
    rw [← g23] at A23 D23 st23
    refine Go.of st23 ?_
    have g_a : n0 ≤ a := Nat.le_trans Zs (Nat.le_of_eq g23.symm)
    have sz_a : h0.size ≤ a := Nat.le_trans Kp.1 (Nat.le_of_eq g23.symm)
    have ne_al_a : al ≠ a := Nat.ne_of_lt (Nat.lt_of_lt_of_le E_al.lt (Nat.le_of_eq g23.symm))
    have ne_b0_a : b0 ≠ a := Nat.ne_of_lt (Nat.lt_of_lt_of_le E_b0.lt (Nat.le_of_eq g23.symm))
    have ne_b1_a : b1 ≠ a := Nat.ne_of_lt (Nat.lt_of_lt_of_le E_b1.lt (Nat.le_of_eq g23.symm))
    have ne_b2_a : b2 ≠ a := Nat.ne_of_lt (Nat.lt_of_lt_of_le E_b2.lt (Nat.le_of_eq g23.symm))
    have Zs := Nat.le_trans Zs E23.1
    have Kp := Kp.ext E23
    have Od := Od.ext E23
    have E_al := E_al.ext E23
    have A_al := A_al.ext E23
    have E_b0 := E_b0.ext E23
    have E_b1 := E_b1.ext E23
    have E_b2 := E_b2.ext E23
    have E_a := A23
    have F_a_highestCount : Fld Z h23 a "com/example/tundra_ascent/tundraascent/rules/StrictlyMost" "highestCount" "I" (.int (0 : Int32)) := D23 (Or.inl (hw _ (List.mem_of_getElem? (i := 32) rfl))) (ty := .int) (by decide)
    have F_a_tied : Fld Z h23 a "com/example/tundra_ascent/tundraascent/rules/StrictlyMost" "tied" "Z" (.int (0 : Int32)) := D23 (Or.inl (hw _ (List.mem_of_getElem? (i := 34) rfl))) (ty := .boolean) (by decide)
    have F_a_highest : Fld Z h23 a "com/example/tundra_ascent/tundraascent/rules/StrictlyMost" "highest" "Lcom/example/tundra_ascent/tundraascent/rules/Animal;" .null := D23 (Or.inl (hw _ (List.mem_of_getElem? (i := 57) rfl))) (ty := (.object "com/example/tundra_ascent/tundraascent/rules/Animal")) (by decide)
    show Go _ _ _ _ _ _ _ (T23.setTop (mkF m 132 #[.val (.int x1), .val (.int x2), .val (.int x3), .val (.int x4), .val (.ref al), .val (.int (1 : Int32)), .val (.int r), .val (.ref b0), .val (.ref b1), .val (.ref b2), .val (.int (1 : Int32)), .val (.int (0 : Int32)), .val (.int (0 : Int32)), .unset, .unset, .unset] [(.ref a)]))
    refine Go.of (fun _ q => XS.dup X23.here hx rfl (hb hby at_132) rfl rfl q) ?_
    show Go _ _ _ _ _ _ _ (T23.setTop (mkF m 133 #[.val (.int x1), .val (.int x2), .val (.int x3), .val (.int x4), .val (.ref al), .val (.int (1 : Int32)), .val (.int r), .val (.ref b0), .val (.ref b1), .val (.ref b2), .val (.int (1 : Int32)), .val (.int (0 : Int32)), .val (.int (0 : Int32)), .unset, .unset, .unset] [(.ref a), (.ref a)]))
    refine Go.special X23 hx hZ (y := (⟨"com/example/tundra_ascent/tundraascent/rules/StrictlyMost", "<init>", "()V"⟩ : MethodName)) (a := a) (argsL := []) rfl hown (hw _ (List.mem_of_getElem? (i := 20) rfl)) (hw _ (List.mem_of_getElem? (i := 21) rfl)) (hw _ (List.mem_of_getElem? (i := 19) rfl)) (hw _ (List.mem_of_getElem? (i := 22) rfl)) (by decide) 1 e23 (rm1 l Z a0 hw a h23 n0 Zs ) (by decide) (by decide) (by decide) (by decide) (g := (mkF m 133 #[.val (.int x1), .val (.int x2), .val (.int x3), .val (.int x4), .val (.ref al), .val (.int (1 : Int32)), .val (.int r), .val (.ref b0), .val (.ref b1), .val (.ref b2), .val (.int (1 : Int32)), .val (.int (0 : Int32)), .val (.int (0 : Int32)), .unset, .unset, .unset] [(.ref a), (.ref a)])) rfl (by rw [hml]; rfl) (rest := [(.ref a)]) (lenOf pd3 rfl) rfl (by show 2 * 0 + _ ≤ _; exact Nat.le_of_eq rfl) (hb hby at_133) ?_
    intro T24 v24 L24 X24 q24
    obtain ⟨rfl, Nq24, e24⟩ := q24
    have N24 := Fr.app N13 Nq24
    show Go _ _ _ _ _ _ _ (T24.setTop (mkF m 136 #[.val (.int x1), .val (.int x2), .val (.int x3), .val (.int x4), .val (.ref al), .val (.int (1 : Int32)), .val (.int r), .val (.ref b0), .val (.ref b1), .val (.ref b2), .val (.int (1 : Int32)), .val (.int (0 : Int32)), .val (.int (0 : Int32)), .unset, .unset, .unset] [(.ref a)]))
    refine Go.of (fun _ q => XS.astore X24.here hx rfl (hb hby at_136) rfl rfl (l' := #[.val (.int x1), .val (.int x2), .val (.int x3), .val (.int x4), .val (.ref al), .val (.int (1 : Int32)), .val (.int r), .val (.ref b0), .val (.ref b1), .val (.ref b2), .val (.int (1 : Int32)), .val (.int (0 : Int32)), .val (.int (0 : Int32)), .val (.ref a), .unset, .unset]) rfl q) ?_
    show Go _ _ _ _ _ _ _ (T24.setTop (mkF m 138 #[.val (.int x1), .val (.int x2), .val (.int x3), .val (.int x4), .val (.ref al), .val (.int (1 : Int32)), .val (.int r), .val (.ref b0), .val (.ref b1), .val (.ref b2), .val (.int (1 : Int32)), .val (.int (0 : Int32)), .val (.int (0 : Int32)), .val (.ref a), .unset, .unset] []))
    refine Go.of (fun _ q => XS.iload X24.here hx rfl (hb hby at_138) rfl q) ?_
    show Go _ _ _ _ _ _ _ (T24.setTop (mkF m 140 #[.val (.int x1), .val (.int x2), .val (.int x3), .val (.int x4), .val (.ref al), .val (.int (1 : Int32)), .val (.int r), .val (.ref b0), .val (.ref b1), .val (.ref b2), .val (.int (1 : Int32)), .val (.int (0 : Int32)), .val (.int (0 : Int32)), .val (.ref a), .unset, .unset] [(.int (1 : Int32))]))
    refine Go.of (fun _ q => XS.ifNo X24.here hx rfl (hb hby at_140) rfl ((if0 _ _).trans (feq (by decide)).1) q) ?_
    show Go _ _ _ _ _ _ _ (T24.setTop (mkF m 143 #[.val (.int x1), .val (.int x2), .val (.int x3), .val (.int x4), .val (.ref al), .val (.int (1 : Int32)), .val (.int r), .val (.ref b0), .val (.ref b1), .val (.ref b2), .val (.int (1 : Int32)), .val (.int (0 : Int32)), .val (.int (0 : Int32)), .val (.ref a), .unset, .unset] []))
    refine Go.of (fun _ q => XS.aload X24.here hx rfl (hb hby at_143) rfl rfl q) ?_
    show Go _ _ _ _ _ _ _ (T24.setTop (mkF m 145 #[.val (.int x1), .val (.int x2), .val (.int x3), .val (.int x4), .val (.ref al), .val (.int (1 : Int32)), .val (.int r), .val (.ref b0), .val (.ref b1), .val (.ref b2), .val (.int (1 : Int32)), .val (.int (0 : Int32)), .val (.int (0 : Int32)), .val (.ref a), .unset, .unset] [(.ref a)]))
    refine Go.of (fun _ q => XS.aload X24.here hx rfl (hb hby at_145) rfl rfl q) ?_
    show Go _ _ _ _ _ _ _ (T24.setTop (mkF m 147 #[.val (.int x1), .val (.int x2), .val (.int x3), .val (.int x4), .val (.ref al), .val (.int (1 : Int32)), .val (.int r), .val (.ref b0), .val (.ref b1), .val (.ref b2), .val (.int (1 : Int32)), .val (.int (0 : Int32)), .val (.int (0 : Int32)), .val (.ref a), .unset, .unset] [(.ref b0), (.ref a)]))
    refine Go.of (fun _ q => XS.iloadN X24.here hx rfl (hb hby at_147) rfl q) ?_
    show Go _ _ _ _ _ _ _ (T24.setTop (mkF m 148 #[.val (.int x1), .val (.int x2), .val (.int x3), .val (.int x4), .val (.ref al), .val (.int (1 : Int32)), .val (.int r), .val (.ref b0), .val (.ref b1), .val (.ref b2), .val (.int (1 : Int32)), .val (.int (0 : Int32)), .val (.int (0 : Int32)), .val (.ref a), .unset, .unset] [(.int x1), (.ref b0), (.ref a)]))
    refine Go.virtual X24 hx hZ (y := (⟨"com/example/tundra_ascent/tundraascent/rules/StrictlyMost", "count", "(Lcom/example/tundra_ascent/tundraascent/rules/Animal;I)V"⟩ : MethodName)) (z := (⟨"com/example/tundra_ascent/tundraascent/rules/StrictlyMost", "count", "(Lcom/example/tundra_ascent/tundraascent/rules/Animal;I)V"⟩ : MethodName)) (a := a) (argsL := [(.ref b0), (.int x1)]) hown (hw _ (List.mem_of_getElem? (i := 26) rfl)) (hw _ (List.mem_of_getElem? (i := 27) rfl)) (notFace_of_selects (args := #[]) (mvT hZ (hw _ (List.mem_of_getElem? (i := 29) rfl)))) (hw _ (List.mem_of_getElem? (i := 29) rfl)) (hw _ (List.mem_of_getElem? (i := 28) rfl)) (hw _ (List.mem_of_getElem? (i := 19) rfl)) (hw _ (List.mem_of_getElem? (i := 30) rfl)) (by decide) 0 e24 E_a (rm3 l Z a0 hw a b0 x1 .null rfl (0 : Int32) (0 : Int32) h23 n0 Zs E_a F_a_highest F_a_highestCount F_a_tied g_a) (by decide) (by decide) (by decide) (by decide) (g := (mkF m 148 #[.val (.int x1), .val (.int x2), .val (.int x3), .val (.int x4), .val (.ref al), .val (.int (1 : Int32)), .val (.int r), .val (.ref b0), .val (.ref b1), .val (.ref b2), .val (.int (1 : Int32)), .val (.int (0 : Int32)), .val (.int (0 : Int32)), .val (.ref a), .unset, .unset] [(.int x1), (.ref b0), (.ref a)])) rfl (by rw [hml]; rfl) (rest := []) (lenOf pd6 rfl) rfl (by show 2 * 0 + _ ≤ _; exact Nat.le_of_eq rfl) (hb hby at_148) ?_
    intro T25 v25 L25 X25 q25
    obtain ⟨rfl, Nq25, K25, f25_0, f25_1, f25_2, f25_3⟩ := q25
    have N25 := Fr.app N24 Nq25
    have Zs := Nat.le_trans Zs K25.1
    have Kp := Kp.trans K25 (allS (P := fun x => x ∈ [] ∨ h0.size ≤ x) (Or.inr sz_a) all0)
    have Od := Od.keep K25 (allS (P := fun x => n0 ≤ x) g_a all0)
    have E_al := E_al.keep K25
    have A_al := A_al.keep K25 (ninS ne_al_a nin0)
    have E_b0 := E_b0.keep K25
    have E_b1 := E_b1.keep K25
    have E_b2 := E_b2.keep K25
    have E_a := E_a.keep K25
    have F_a_highest := f25_1
    have F_a_highestCount := f25_2
    have F_a_tied := f25_3
    show Go _ _ _ _ _ _ _ (T25.setTop (mkF m 151 #[.val (.int x1), .val (.int x2), .val (.int x3), .val (.int x4), .val (.ref al), .val (.int (1 : Int32)), .val (.int r), .val (.ref b0), .val (.ref b1), .val (.ref b2), .val (.int (1 : Int32)), .val (.int (0 : Int32)), .val (.int (0 : Int32)), .val (.ref a), .unset, .unset] []))
    refine Go.of (fun _ q => XS.iload X25.here hx rfl (hb hby at_151) rfl q) ?_
    show Go _ _ _ _ _ _ _ (T25.setTop (mkF m 153 #[.val (.int x1), .val (.int x2), .val (.int x3), .val (.int x4), .val (.ref al), .val (.int (1 : Int32)), .val (.int r), .val (.ref b0), .val (.ref b1), .val (.ref b2), .val (.int (1 : Int32)), .val (.int (0 : Int32)), .val (.int (0 : Int32)), .val (.ref a), .unset, .unset] [(.int (0 : Int32))]))
    refine Go.of (fun _ q => XS.ifYes X25.here hx rfl (pc0 := 153) (pc' := 164) rfl (hb hby at_153) rfl ((if0 _ _).trans (teq rfl).1) (by decide) (by decide) q) ?_
    show Go _ _ _ _ _ _ _ (T25.setTop (mkF m 164 #[.val (.int x1), .val (.int x2), .val (.int x3), .val (.int x4), .val (.ref al), .val (.int (1 : Int32)), .val (.int r), .val (.ref b0), .val (.ref b1), .val (.ref b2), .val (.int (1 : Int32)), .val (.int (0 : Int32)), .val (.int (0 : Int32)), .val (.ref a), .unset, .unset] []))
    refine Go.of (fun _ q => XS.iload X25.here hx rfl (hb hby at_164) rfl q) ?_
    show Go _ _ _ _ _ _ _ (T25.setTop (mkF m 166 #[.val (.int x1), .val (.int x2), .val (.int x3), .val (.int x4), .val (.ref al), .val (.int (1 : Int32)), .val (.int r), .val (.ref b0), .val (.ref b1), .val (.ref b2), .val (.int (1 : Int32)), .val (.int (0 : Int32)), .val (.int (0 : Int32)), .val (.ref a), .unset, .unset] [(.int (0 : Int32))]))
    refine Go.of (fun _ q => XS.ifYes X25.here hx rfl (pc0 := 166) (pc' := 177) rfl (hb hby at_166) rfl ((if0 _ _).trans (teq rfl).1) (by decide) (by decide) q) ?_
    show Go _ _ _ _ _ _ _ (T25.setTop (mkF m 177 #[.val (.int x1), .val (.int x2), .val (.int x3), .val (.int x4), .val (.ref al), .val (.int (1 : Int32)), .val (.int r), .val (.ref b0), .val (.ref b1), .val (.ref b2), .val (.int (1 : Int32)), .val (.int (0 : Int32)), .val (.int (0 : Int32)), .val (.ref a), .unset, .unset] []))
    refine Go.of (fun _ q => XS.aload X25.here hx rfl (hb hby at_177) rfl rfl q) ?_
    show Go _ _ _ _ _ _ _ (T25.setTop (mkF m 179 #[.val (.int x1), .val (.int x2), .val (.int x3), .val (.int x4), .val (.ref al), .val (.int (1 : Int32)), .val (.int r), .val (.ref b0), .val (.ref b1), .val (.ref b2), .val (.int (1 : Int32)), .val (.int (0 : Int32)), .val (.int (0 : Int32)), .val (.ref a), .unset, .unset] [(.ref a)]))
    refine Go.virtual X25 hx hZ (y := (⟨"com/example/tundra_ascent/tundraascent/rules/StrictlyMost", "animal", "()Ljava/util/Optional;"⟩ : MethodName)) (z := (⟨"com/example/tundra_ascent/tundraascent/rules/StrictlyMost", "animal", "()Ljava/util/Optional;"⟩ : MethodName)) (a := a) (argsL := []) hown (hw _ (List.mem_of_getElem? (i := 35) rfl)) (hw _ (List.mem_of_getElem? (i := 36) rfl)) (notFace_of_selects (args := #[]) (mvT hZ (hw _ (List.mem_of_getElem? (i := 38) rfl)))) (hw _ (List.mem_of_getElem? (i := 38) rfl)) (hw _ (List.mem_of_getElem? (i := 37) rfl)) (hw _ (List.mem_of_getElem? (i := 19) rfl)) (hw _ (List.mem_of_getElem? (i := 39) rfl)) (by decide) 0 rfl E_a (rm4 l Z a0 hw a (own_stH x1 (0 : Int32) (.ref b0) .null) (own_stHr rfl rfl) (own_stT x1 (0 : Int32) (0 : Int32)) em T25.heap n0 Zs Od F_a_highest F_a_tied Sem Eem Fem) (by decide) (by decide) (by decide) (by decide) (g := (mkF m 179 #[.val (.int x1), .val (.int x2), .val (.int x3), .val (.int x4), .val (.ref al), .val (.int (1 : Int32)), .val (.int r), .val (.ref b0), .val (.ref b1), .val (.ref b2), .val (.int (1 : Int32)), .val (.int (0 : Int32)), .val (.int (0 : Int32)), .val (.ref a), .unset, .unset] [(.ref a)])) rfl (by rw [hml]; rfl) (rest := []) (lenOf pd2 rfl) rfl (by show 2 * 0 + _ ≤ _; exact Nat.le_of_eq rfl) (hb hby at_179) ?_
    intro T26 v26 L26 X26 q26
    obtain ⟨ob1, rfl, Nq26, K26, f26_0, f26_1⟩ := q26
    have N26 := Fr.app N25 Nq26
    have Zs := Nat.le_trans Zs K26.1
    have Kp := Kp.trans K26 all0
    have Od := Od.keep K26 all0
    have E_al := E_al.keep K26
    have A_al := A_al.keep K26 nin0
    have E_b0 := E_b0.keep K26
    have E_b1 := E_b1.keep K26
    have E_b2 := E_b2.keep K26
    have E_a := E_a.keep K26
    have F_a_highest := F_a_highest.keep K26 nin0
    have F_a_highestCount := F_a_highestCount.keep K26 nin0
    have F_a_tied := F_a_tied.keep K26 nin0
    have E_ob1 := f26_0
    have F_ob1_value := f26_1
    show Go _ _ _ _ _ _ _ (T26.setTop (mkF m 182 #[.val (.int x1), .val (.int x2), .val (.int x3), .val (.int x4), .val (.ref al), .val (.int (1 : Int32)), .val (.int r), .val (.ref b0), .val (.ref b1), .val (.ref b2), .val (.int (1 : Int32)), .val (.int (0 : Int32)), .val (.int (0 : Int32)), .val (.ref a), .unset, .unset] [(.ref ob1)]))
    refine Go.of (fun _ q => XS.aconstNull X26.here hx rfl (hb hby at_182) q) ?_
    show Go _ _ _ _ _ _ _ (T26.setTop (mkF m 183 #[.val (.int x1), .val (.int x2), .val (.int x3), .val (.int x4), .val (.ref al), .val (.int (1 : Int32)), .val (.int r), .val (.ref b0), .val (.ref b1), .val (.ref b2), .val (.int (1 : Int32)), .val (.int (0 : Int32)), .val (.int (0 : Int32)), .val (.ref a), .unset, .unset] [.null, (.ref ob1)]))
    refine Go.virtual X26 hx hZ (y := (⟨"java/util/Optional", "orElse", "(Ljava/lang/Object;)Ljava/lang/Object;"⟩ : MethodName)) (z := (⟨"java/util/Optional", "orElse", "(Ljava/lang/Object;)Ljava/lang/Object;"⟩ : MethodName)) (a := ob1) (argsL := [.null]) hown (hw _ (List.mem_of_getElem? (i := 45) rfl)) (hw _ (List.mem_of_getElem? (i := 46) rfl)) (notFace_of_selects (args := #[]) (mvT hZ (hw _ (List.mem_of_getElem? (i := 48) rfl)))) (hw _ (List.mem_of_getElem? (i := 48) rfl)) (hw _ (List.mem_of_getElem? (i := 47) rfl)) (hw _ (List.mem_of_getElem? (i := 42) rfl)) (hw _ (List.mem_of_getElem? (i := 49) rfl)) (by decide) 0 rfl E_ob1 (rm6 l Z a0 hw ob1 (if (own_stT x1 (0 : Int32) (0 : Int32)) = (0 : Int32) then (own_stH x1 (0 : Int32) (.ref b0) .null) else Value.null) (own_iteR (own_stHr rfl rfl)) T26.heap n0 Zs F_ob1_value) (by decide) (by decide) (by decide) (by decide) (g := (mkF m 183 #[.val (.int x1), .val (.int x2), .val (.int x3), .val (.int x4), .val (.ref al), .val (.int (1 : Int32)), .val (.int r), .val (.ref b0), .val (.ref b1), .val (.ref b2), .val (.int (1 : Int32)), .val (.int (0 : Int32)), .val (.int (0 : Int32)), .val (.ref a), .unset, .unset] [.null, (.ref ob1)])) rfl (by rw [hml]; rfl) (rest := []) (lenOf pd4 rfl) rfl (by show 2 * 0 + _ ≤ _; exact Nat.le_of_eq rfl) (hb hby at_183) ?_
    intro T27 v27 L27 X27 q27
    obtain ⟨rfl, Nq27, e27⟩ := q27
    have N27 := Fr.app N26 Nq27
    obtain ⟨got, hgot⟩ : ∃ z : Value, z = (if (own_stT x1 (0 : Int32) (0 : Int32)) = (0 : Int32) then (own_stH x1 (0 : Int32) (.ref b0) .null) else Value.null) := ⟨_, rfl⟩
    rw [← hgot]
    have rgot : got.isRef = true := by rw [hgot]; exact (own_iteR (own_stHr rfl rfl))
    show Go _ _ _ _ _ _ _ (T27.setTop (mkF m 186 #[.val (.int x1), .val (.int x2), .val (.int x3), .val (.int x4), .val (.ref al), .val (.int (1 : Int32)), .val (.int r), .val (.ref b0), .val (.ref b1), .val (.ref b2), .val (.int (1 : Int32)), .val (.int (0 : Int32)), .val (.int (0 : Int32)), .val (.ref a), .unset, .unset] [got]))
    obtain ⟨T28, X28, e28, st28⟩ := castV X27 hx hZ hown (hw _ (List.mem_of_getElem? (i := 0) rfl)) e27 (by rw [hgot]; exact own_iteP (own_stHP (Or.inr ⟨_, rfl, Ins.self E_b0⟩) (Or.inl rfl))) (g := (mkF m 186 #[.val (.int x1), .val (.int x2), .val (.int x3), .val (.int x4), .val (.ref al), .val (.int (1 : Int32)), .val (.int r), .val (.ref b0), .val (.ref b1), .val (.ref b2), .val (.int (1 : Int32)), .val (.int (0 : Int32)), .val (.int (0 : Int32)), .val (.ref a), .unset, .unset] [got])) rfl rfl (hb hby at_186)
    refine Go.of st28 ?_
    show Go _ _ _ _ _ _ _ (T28.setTop (mkF m 189 #[.val (.int x1), .val (.int x2), .val (.int x3), .val (.int x4), .val (.ref al), .val (.int (1 : Int32)), .val (.int r), .val (.ref b0), .val (.ref b1), .val (.ref b2), .val (.int (1 : Int32)), .val (.int (0 : Int32)), .val (.int (0 : Int32)), .val (.ref a), .unset, .unset] [got]))
    refine Go.of (fun _ q => XS.astore X28.here hx rfl (hb hby at_189) rfl rgot (l' := #[.val (.int x1), .val (.int x2), .val (.int x3), .val (.int x4), .val (.ref al), .val (.int (1 : Int32)), .val (.int r), .val (.ref b0), .val (.ref b1), .val (.ref b2), .val (.int (1 : Int32)), .val (.int (0 : Int32)), .val (.int (0 : Int32)), .val (.ref a), .val got, .unset]) (by first | rfl | (cases got <;> first | rfl | (simp [Value.isRef] at rgot; done))) q) ?_
    show Go _ _ _ _ _ _ _ (T28.setTop (mkF m 191 #[.val (.int x1), .val (.int x2), .val (.int x3), .val (.int x4), .val (.ref al), .val (.int (1 : Int32)), .val (.int r), .val (.ref b0), .val (.ref b1), .val (.ref b2), .val (.int (1 : Int32)), .val (.int (0 : Int32)), .val (.int (0 : Int32)), .val (.ref a), .val got, .unset] []))
    refine Go.of (fun _ q => XS.aconstNull X28.here hx rfl (hb hby at_191) q) ?_
    show Go _ _ _ _ _ _ _ (T28.setTop (mkF m 192 #[.val (.int x1), .val (.int x2), .val (.int x3), .val (.int x4), .val (.ref al), .val (.int (1 : Int32)), .val (.int r), .val (.ref b0), .val (.ref b1), .val (.ref b2), .val (.int (1 : Int32)), .val (.int (0 : Int32)), .val (.int (0 : Int32)), .val (.ref a), .val got, .unset] [.null]))
    refine Go.of (fun _ q => XS.astore X28.here hx rfl (hb hby at_192) rfl rfl (l' := #[.val (.int x1), .val (.int x2), .val (.int x3), .val (.int x4), .val (.ref al), .val (.int (1 : Int32)), .val (.int r), .val (.ref b0), .val (.ref b1), .val (.ref b2), .val (.int (1 : Int32)), .val (.int (0 : Int32)), .val (.int (0 : Int32)), .val (.ref a), .val got, .val .null]) rfl q) ?_
    show Go _ _ _ _ _ _ _ (T28.setTop (mkF m 194 #[.val (.int x1), .val (.int x2), .val (.int x3), .val (.int x4), .val (.ref al), .val (.int (1 : Int32)), .val (.int r), .val (.ref b0), .val (.ref b1), .val (.ref b2), .val (.int (1 : Int32)), .val (.int (0 : Int32)), .val (.int (0 : Int32)), .val (.ref a), .val got, .val .null] []))
    refine Go.of (fun _ q => XS.iload X28.here hx rfl (hb hby at_194) rfl q) ?_
    show Go _ _ _ _ _ _ _ (T28.setTop (mkF m 196 #[.val (.int x1), .val (.int x2), .val (.int x3), .val (.int x4), .val (.ref al), .val (.int (1 : Int32)), .val (.int r), .val (.ref b0), .val (.ref b1), .val (.ref b2), .val (.int (1 : Int32)), .val (.int (0 : Int32)), .val (.int (0 : Int32)), .val (.ref a), .val got, .val .null] [(.int (1 : Int32))]))
    refine Go.of (fun _ q => XS.iloadN X28.here hx rfl (hb hby at_196) rfl q) ?_
    show Go _ _ _ _ _ _ _ (T28.setTop (mkF m 197 #[.val (.int x1), .val (.int x2), .val (.int x3), .val (.int x4), .val (.ref al), .val (.int (1 : Int32)), .val (.int r), .val (.ref b0), .val (.ref b1), .val (.ref b2), .val (.int (1 : Int32)), .val (.int (0 : Int32)), .val (.int (0 : Int32)), .val (.ref a), .val got, .val .null] [(.int x1), (.int (1 : Int32))]))
    refine Go.of (fun _ q => XS.iload X28.here hx rfl (hb hby at_197) rfl q) ?_
    show Go _ _ _ _ _ _ _ (T28.setTop (mkF m 199 #[.val (.int x1), .val (.int x2), .val (.int x3), .val (.int x4), .val (.ref al), .val (.int (1 : Int32)), .val (.int r), .val (.ref b0), .val (.ref b1), .val (.ref b2), .val (.int (1 : Int32)), .val (.int (0 : Int32)), .val (.int (0 : Int32)), .val (.ref a), .val got, .val .null] [(.int (0 : Int32)), (.int x1), (.int (1 : Int32))]))
    refine Go.of (fun _ q => XS.iloadN X28.here hx rfl (hb hby at_199) rfl q) ?_
    show Go _ _ _ _ _ _ _ (T28.setTop (mkF m 200 #[.val (.int x1), .val (.int x2), .val (.int x3), .val (.int x4), .val (.ref al), .val (.int (1 : Int32)), .val (.int r), .val (.ref b0), .val (.ref b1), .val (.ref b2), .val (.int (1 : Int32)), .val (.int (0 : Int32)), .val (.int (0 : Int32)), .val (.ref a), .val got, .val .null] [(.int x2), (.int (0 : Int32)), (.int x1), (.int (1 : Int32))]))
    refine Go.of (fun _ q => XS.iload X28.here hx rfl (hb hby at_200) rfl q) ?_
    show Go _ _ _ _ _ _ _ (T28.setTop (mkF m 202 #[.val (.int x1), .val (.int x2), .val (.int x3), .val (.int x4), .val (.ref al), .val (.int (1 : Int32)), .val (.int r), .val (.ref b0), .val (.ref b1), .val (.ref b2), .val (.int (1 : Int32)), .val (.int (0 : Int32)), .val (.int (0 : Int32)), .val (.ref a), .val got, .val .null] [(.int (0 : Int32)), (.int x2), (.int (0 : Int32)), (.int x1), (.int (1 : Int32))]))
    refine Go.of (fun _ q => XS.iloadN X28.here hx rfl (hb hby at_202) rfl q) ?_
    show Go _ _ _ _ _ _ _ (T28.setTop (mkF m 203 #[.val (.int x1), .val (.int x2), .val (.int x3), .val (.int x4), .val (.ref al), .val (.int (1 : Int32)), .val (.int r), .val (.ref b0), .val (.ref b1), .val (.ref b2), .val (.int (1 : Int32)), .val (.int (0 : Int32)), .val (.int (0 : Int32)), .val (.ref a), .val got, .val .null] [(.int x3), (.int (0 : Int32)), (.int x2), (.int (0 : Int32)), (.int x1), (.int (1 : Int32))]))
    refine Go.static X28 hx hZ (y := (⟨"com/example/tundra_ascent/tundraascent/rules/StrictlyMostCountPinLaw", "wins", "(ZIZIZI)Z"⟩ : MethodName)) (argsL := [(.int (1 : Int32)), (.int x1), (.int (0 : Int32)), (.int x2), (.int (0 : Int32)), (.int x3)]) hown (hw _ (List.mem_of_getElem? (i := 52) rfl)) (hw _ (List.mem_of_getElem? (i := 53) rfl)) (hw _ (List.mem_of_getElem? (i := 54) rfl)) (hw _ (List.mem_of_getElem? (i := 55) rfl)) (by decide) 0 e28 (rm7 l Z a0 hw (1 : Int32) x1 (0 : Int32) x2 (0 : Int32) x3 T26.heap n0 Zs ) (by decide) (by decide) (by decide) (by decide) (g := (mkF m 203 #[.val (.int x1), .val (.int x2), .val (.int x3), .val (.int x4), .val (.ref al), .val (.int (1 : Int32)), .val (.int r), .val (.ref b0), .val (.ref b1), .val (.ref b2), .val (.int (1 : Int32)), .val (.int (0 : Int32)), .val (.int (0 : Int32)), .val (.ref a), .val got, .val .null] [(.int x3), (.int (0 : Int32)), (.int x2), (.int (0 : Int32)), (.int x1), (.int (1 : Int32))])) rfl (by rw [hml]; rfl) (rest := []) (lenOf pd5 rfl) rfl (by show 2 * 0 + _ ≤ _; exact Nat.le_of_eq rfl) (hb hby at_203) ?_
    intro T29 v29 L29 X29 q29
    obtain ⟨rfl, Nq29, e29⟩ := q29
    have N29 := Fr.app N27 Nq29
    show Go _ _ _ _ _ _ _ (T29.setTop (mkF m 206 #[.val (.int x1), .val (.int x2), .val (.int x3), .val (.int x4), .val (.ref al), .val (.int (1 : Int32)), .val (.int r), .val (.ref b0), .val (.ref b1), .val (.ref b2), .val (.int (1 : Int32)), .val (.int (0 : Int32)), .val (.int (0 : Int32)), .val (.ref a), .val got, .val .null] [(.int (own_w (1 : Int32) x1 (0 : Int32) x2 (0 : Int32) x3))]))
    have J32 : ∀ (TJ32 : State) (lJ32 : List Loc) (zJ32_0 : Value), Stand p l e room_1 s m #[(.int x1), (.int x2), (.int x3), (.int x4)] below meth c TJ32 lJ32 3 10 → TJ32.heap = T26.heap → Fr n0 lJ32 → zJ32_0 = ((if (own_w (1 : Int32) x1 (0 : Int32) x2 (0 : Int32) x3) = (0 : Int32) then (if (own_w (0 : Int32) x2 (1 : Int32) x1 (0 : Int32) x3) = (0 : Int32) then (if (own_w (0 : Int32) x3 (1 : Int32) x1 (0 : Int32) x2) = (0 : Int32) then .null else (.ref b2)) else (.ref b1)) else (.ref b0)) : Value) → zJ32_0.isRef = true → Go p e below s room_1.cells room_1.slots (Q0 Z x1 x2 x3 x4 o0 o1 o2 o3 o4 o5 em h0 n0) (TJ32.setTop (mkF m 257 #[.val (.int x1), .val (.int x2), .val (.int x3), .val (.int x4), .val (.ref al), .val (.int (1 : Int32)), .val (.int r), .val (.ref b0), .val (.ref b1), .val (.ref b2), .val (.int (1 : Int32)), .val (.int (0 : Int32)), .val (.int (0 : Int32)), .val (.ref a), .val got, .val zJ32_0] [])) := by
      intro TJ32 lJ32 zJ32_0 XJ32 eJ32 NJ32 hzJ32_0 rzJ32_0
      show Go _ _ _ _ _ _ _ (TJ32.setTop (mkF m 257 #[.val (.int x1), .val (.int x2), .val (.int x3), .val (.int x4), .val (.ref al), .val (.int (1 : Int32)), .val (.int r), .val (.ref b0), .val (.ref b1), .val (.ref b2), .val (.int (1 : Int32)), .val (.int (0 : Int32)), .val (.int (0 : Int32)), .val (.ref a), .val got, .val zJ32_0] []))
      refine Go.of (fun _ q => XS.aload XJ32.here hx rfl (hb hby at_257) rfl rgot q) ?_
      show Go _ _ _ _ _ _ _ (TJ32.setTop (mkF m 259 #[.val (.int x1), .val (.int x2), .val (.int x3), .val (.int x4), .val (.ref al), .val (.int (1 : Int32)), .val (.int r), .val (.ref b0), .val (.ref b1), .val (.ref b2), .val (.int (1 : Int32)), .val (.int (0 : Int32)), .val (.int (0 : Int32)), .val (.ref a), .val got, .val zJ32_0] [got]))
      refine Go.of (fun _ q => XS.aload XJ32.here hx rfl (hb hby at_259) rfl rzJ32_0 q) ?_
      show Go _ _ _ _ _ _ _ (TJ32.setTop (mkF m 261 #[.val (.int x1), .val (.int x2), .val (.int x3), .val (.int x4), .val (.ref al), .val (.int (1 : Int32)), .val (.int r), .val (.ref b0), .val (.ref b1), .val (.ref b2), .val (.int (1 : Int32)), .val (.int (0 : Int32)), .val (.int (0 : Int32)), .val (.ref a), .val got, .val zJ32_0] [zJ32_0, got]))
      refine Go.of (fun _ q => Jvm.RoadKit.acmp (g := (mkF m 261 #[.val (.int x1), .val (.int x2), .val (.int x3), .val (.int x4), .val (.ref al), .val (.int (1 : Int32)), .val (.int r), .val (.ref b0), .val (.ref b1), .val (.ref b2), .val (.int (1 : Int32)), .val (.int (0 : Int32)), .val (.int (0 : Int32)), .val (.ref a), .val got, .val zJ32_0] [zJ32_0, got])) XJ32 hx rfl rgot rzJ32_0 (pc0 := 261) (pc' := 264) (same := true) rfl (hb hby at_261) rfl (decide_eq_true (by rw [hgot, hzJ32_0]; exact own_p1 x1 x2 x3 b0 b1 b2)) (by decide) (by decide) q) ?_
      show Go _ _ _ _ _ _ _ (TJ32.setTop (mkF m 264 #[.val (.int x1), .val (.int x2), .val (.int x3), .val (.int x4), .val (.ref al), .val (.int (1 : Int32)), .val (.int r), .val (.ref b0), .val (.ref b1), .val (.ref b2), .val (.int (1 : Int32)), .val (.int (0 : Int32)), .val (.int (0 : Int32)), .val (.ref a), .val got, .val zJ32_0] []))
      refine Go.of (fun _ q => XS.iconst XJ32.here hx rfl (hb hby at_264) q) ?_
      show Go _ _ _ _ _ _ _ (TJ32.setTop (mkF m 265 #[.val (.int x1), .val (.int x2), .val (.int x3), .val (.int x4), .val (.ref al), .val (.int (1 : Int32)), .val (.int r), .val (.ref b0), .val (.ref b1), .val (.ref b2), .val (.int (1 : Int32)), .val (.int (0 : Int32)), .val (.int (0 : Int32)), .val (.ref a), .val got, .val zJ32_0] [(.int (1 : Int32))]))
      refine Go.of (fun _ q => XS.goto XJ32.here hx rfl (pc0 := 265) (pc' := 269) rfl (hb hby at_265) (by decide) (by decide) q) ?_
      show Go _ _ _ _ _ _ _ (TJ32.setTop (mkF m 269 #[.val (.int x1), .val (.int x2), .val (.int x3), .val (.int x4), .val (.ref al), .val (.int (1 : Int32)), .val (.int r), .val (.ref b0), .val (.ref b1), .val (.ref b2), .val (.int (1 : Int32)), .val (.int (0 : Int32)), .val (.int (0 : Int32)), .val (.ref a), .val got, .val zJ32_0] [(.int (1 : Int32))]))
      refine Go.retN XJ32 hx hlk (t := .boolean) hret (by simp) (hb hby at_269) rfl (by decide) (by decide) ?_
      rw [eJ32]
      exact ⟨rfl, NJ32⟩
    by_cases c206 : (own_w (1 : Int32) x1 (0 : Int32) x2 (0 : Int32) x3) = (0 : Int32)
    · refine Go.of (fun _ q => XS.ifYes X29.here hx rfl (pc0 := 206) (pc' := 216) rfl (hb hby at_206) rfl ((if0 _ _).trans (teq c206).1) (by decide) (by decide) q) ?_
      show Go _ _ _ _ _ _ _ (T29.setTop (mkF m 216 #[.val (.int x1), .val (.int x2), .val (.int x3), .val (.int x4), .val (.ref al), .val (.int (1 : Int32)), .val (.int r), .val (.ref b0), .val (.ref b1), .val (.ref b2), .val (.int (1 : Int32)), .val (.int (0 : Int32)), .val (.int (0 : Int32)), .val (.ref a), .val got, .val .null] []))
      refine Go.of (fun _ q => XS.iload X29.here hx rfl (hb hby at_216) rfl q) ?_
      show Go _ _ _ _ _ _ _ (T29.setTop (mkF m 218 #[.val (.int x1), .val (.int x2), .val (.int x3), .val (.int x4), .val (.ref al), .val (.int (1 : Int32)), .val (.int r), .val (.ref b0), .val (.ref b1), .val (.ref b2), .val (.int (1 : Int32)), .val (.int (0 : Int32)), .val (.int (0 : Int32)), .val (.ref a), .val got, .val .null] [(.int (0 : Int32))]))
      refine Go.of (fun _ q => XS.iloadN X29.here hx rfl (hb hby at_218) rfl q) ?_
      show Go _ _ _ _ _ _ _ (T29.setTop (mkF m 219 #[.val (.int x1), .val (.int x2), .val (.int x3), .val (.int x4), .val (.ref al), .val (.int (1 : Int32)), .val (.int r), .val (.ref b0), .val (.ref b1), .val (.ref b2), .val (.int (1 : Int32)), .val (.int (0 : Int32)), .val (.int (0 : Int32)), .val (.ref a), .val got, .val .null] [(.int x2), (.int (0 : Int32))]))
      refine Go.of (fun _ q => XS.iload X29.here hx rfl (hb hby at_219) rfl q) ?_
      show Go _ _ _ _ _ _ _ (T29.setTop (mkF m 221 #[.val (.int x1), .val (.int x2), .val (.int x3), .val (.int x4), .val (.ref al), .val (.int (1 : Int32)), .val (.int r), .val (.ref b0), .val (.ref b1), .val (.ref b2), .val (.int (1 : Int32)), .val (.int (0 : Int32)), .val (.int (0 : Int32)), .val (.ref a), .val got, .val .null] [(.int (1 : Int32)), (.int x2), (.int (0 : Int32))]))
      refine Go.of (fun _ q => XS.iloadN X29.here hx rfl (hb hby at_221) rfl q) ?_
      show Go _ _ _ _ _ _ _ (T29.setTop (mkF m 222 #[.val (.int x1), .val (.int x2), .val (.int x3), .val (.int x4), .val (.ref al), .val (.int (1 : Int32)), .val (.int r), .val (.ref b0), .val (.ref b1), .val (.ref b2), .val (.int (1 : Int32)), .val (.int (0 : Int32)), .val (.int (0 : Int32)), .val (.ref a), .val got, .val .null] [(.int x1), (.int (1 : Int32)), (.int x2), (.int (0 : Int32))]))
      refine Go.of (fun _ q => XS.iload X29.here hx rfl (hb hby at_222) rfl q) ?_
      show Go _ _ _ _ _ _ _ (T29.setTop (mkF m 224 #[.val (.int x1), .val (.int x2), .val (.int x3), .val (.int x4), .val (.ref al), .val (.int (1 : Int32)), .val (.int r), .val (.ref b0), .val (.ref b1), .val (.ref b2), .val (.int (1 : Int32)), .val (.int (0 : Int32)), .val (.int (0 : Int32)), .val (.ref a), .val got, .val .null] [(.int (0 : Int32)), (.int x1), (.int (1 : Int32)), (.int x2), (.int (0 : Int32))]))
      refine Go.of (fun _ q => XS.iloadN X29.here hx rfl (hb hby at_224) rfl q) ?_
      show Go _ _ _ _ _ _ _ (T29.setTop (mkF m 225 #[.val (.int x1), .val (.int x2), .val (.int x3), .val (.int x4), .val (.ref al), .val (.int (1 : Int32)), .val (.int r), .val (.ref b0), .val (.ref b1), .val (.ref b2), .val (.int (1 : Int32)), .val (.int (0 : Int32)), .val (.int (0 : Int32)), .val (.ref a), .val got, .val .null] [(.int x3), (.int (0 : Int32)), (.int x1), (.int (1 : Int32)), (.int x2), (.int (0 : Int32))]))
      refine Go.static X29 hx hZ (y := (⟨"com/example/tundra_ascent/tundraascent/rules/StrictlyMostCountPinLaw", "wins", "(ZIZIZI)Z"⟩ : MethodName)) (argsL := [(.int (0 : Int32)), (.int x2), (.int (1 : Int32)), (.int x1), (.int (0 : Int32)), (.int x3)]) hown (hw _ (List.mem_of_getElem? (i := 52) rfl)) (hw _ (List.mem_of_getElem? (i := 53) rfl)) (hw _ (List.mem_of_getElem? (i := 54) rfl)) (hw _ (List.mem_of_getElem? (i := 55) rfl)) (by decide) 0 e29 (rm7 l Z a0 hw (0 : Int32) x2 (1 : Int32) x1 (0 : Int32) x3 T26.heap n0 Zs ) (by decide) (by decide) (by decide) (by decide) (g := (mkF m 225 #[.val (.int x1), .val (.int x2), .val (.int x3), .val (.int x4), .val (.ref al), .val (.int (1 : Int32)), .val (.int r), .val (.ref b0), .val (.ref b1), .val (.ref b2), .val (.int (1 : Int32)), .val (.int (0 : Int32)), .val (.int (0 : Int32)), .val (.ref a), .val got, .val .null] [(.int x3), (.int (0 : Int32)), (.int x1), (.int (1 : Int32)), (.int x2), (.int (0 : Int32))])) rfl (by rw [hml]; rfl) (rest := []) (lenOf pd5 rfl) rfl (by show 2 * 0 + _ ≤ _; exact Nat.le_of_eq rfl) (hb hby at_225) ?_
      intro T30 v30 L30 X30 q30
      obtain ⟨rfl, Nq30, e30⟩ := q30
      have N30 := Fr.app N29 Nq30
      show Go _ _ _ _ _ _ _ (T30.setTop (mkF m 228 #[.val (.int x1), .val (.int x2), .val (.int x3), .val (.int x4), .val (.ref al), .val (.int (1 : Int32)), .val (.int r), .val (.ref b0), .val (.ref b1), .val (.ref b2), .val (.int (1 : Int32)), .val (.int (0 : Int32)), .val (.int (0 : Int32)), .val (.ref a), .val got, .val .null] [(.int (own_w (0 : Int32) x2 (1 : Int32) x1 (0 : Int32) x3))]))
      by_cases c228 : (own_w (0 : Int32) x2 (1 : Int32) x1 (0 : Int32) x3) = (0 : Int32)
      · refine Go.of (fun _ q => XS.ifYes X30.here hx rfl (pc0 := 228) (pc' := 238) rfl (hb hby at_228) rfl ((if0 _ _).trans (teq c228).1) (by decide) (by decide) q) ?_
        show Go _ _ _ _ _ _ _ (T30.setTop (mkF m 238 #[.val (.int x1), .val (.int x2), .val (.int x3), .val (.int x4), .val (.ref al), .val (.int (1 : Int32)), .val (.int r), .val (.ref b0), .val (.ref b1), .val (.ref b2), .val (.int (1 : Int32)), .val (.int (0 : Int32)), .val (.int (0 : Int32)), .val (.ref a), .val got, .val .null] []))
        refine Go.of (fun _ q => XS.iload X30.here hx rfl (hb hby at_238) rfl q) ?_
        show Go _ _ _ _ _ _ _ (T30.setTop (mkF m 240 #[.val (.int x1), .val (.int x2), .val (.int x3), .val (.int x4), .val (.ref al), .val (.int (1 : Int32)), .val (.int r), .val (.ref b0), .val (.ref b1), .val (.ref b2), .val (.int (1 : Int32)), .val (.int (0 : Int32)), .val (.int (0 : Int32)), .val (.ref a), .val got, .val .null] [(.int (0 : Int32))]))
        refine Go.of (fun _ q => XS.iloadN X30.here hx rfl (hb hby at_240) rfl q) ?_
        show Go _ _ _ _ _ _ _ (T30.setTop (mkF m 241 #[.val (.int x1), .val (.int x2), .val (.int x3), .val (.int x4), .val (.ref al), .val (.int (1 : Int32)), .val (.int r), .val (.ref b0), .val (.ref b1), .val (.ref b2), .val (.int (1 : Int32)), .val (.int (0 : Int32)), .val (.int (0 : Int32)), .val (.ref a), .val got, .val .null] [(.int x3), (.int (0 : Int32))]))
        refine Go.of (fun _ q => XS.iload X30.here hx rfl (hb hby at_241) rfl q) ?_
        show Go _ _ _ _ _ _ _ (T30.setTop (mkF m 243 #[.val (.int x1), .val (.int x2), .val (.int x3), .val (.int x4), .val (.ref al), .val (.int (1 : Int32)), .val (.int r), .val (.ref b0), .val (.ref b1), .val (.ref b2), .val (.int (1 : Int32)), .val (.int (0 : Int32)), .val (.int (0 : Int32)), .val (.ref a), .val got, .val .null] [(.int (1 : Int32)), (.int x3), (.int (0 : Int32))]))
        refine Go.of (fun _ q => XS.iloadN X30.here hx rfl (hb hby at_243) rfl q) ?_
        show Go _ _ _ _ _ _ _ (T30.setTop (mkF m 244 #[.val (.int x1), .val (.int x2), .val (.int x3), .val (.int x4), .val (.ref al), .val (.int (1 : Int32)), .val (.int r), .val (.ref b0), .val (.ref b1), .val (.ref b2), .val (.int (1 : Int32)), .val (.int (0 : Int32)), .val (.int (0 : Int32)), .val (.ref a), .val got, .val .null] [(.int x1), (.int (1 : Int32)), (.int x3), (.int (0 : Int32))]))
        refine Go.of (fun _ q => XS.iload X30.here hx rfl (hb hby at_244) rfl q) ?_
        show Go _ _ _ _ _ _ _ (T30.setTop (mkF m 246 #[.val (.int x1), .val (.int x2), .val (.int x3), .val (.int x4), .val (.ref al), .val (.int (1 : Int32)), .val (.int r), .val (.ref b0), .val (.ref b1), .val (.ref b2), .val (.int (1 : Int32)), .val (.int (0 : Int32)), .val (.int (0 : Int32)), .val (.ref a), .val got, .val .null] [(.int (0 : Int32)), (.int x1), (.int (1 : Int32)), (.int x3), (.int (0 : Int32))]))
        refine Go.of (fun _ q => XS.iloadN X30.here hx rfl (hb hby at_246) rfl q) ?_
        show Go _ _ _ _ _ _ _ (T30.setTop (mkF m 247 #[.val (.int x1), .val (.int x2), .val (.int x3), .val (.int x4), .val (.ref al), .val (.int (1 : Int32)), .val (.int r), .val (.ref b0), .val (.ref b1), .val (.ref b2), .val (.int (1 : Int32)), .val (.int (0 : Int32)), .val (.int (0 : Int32)), .val (.ref a), .val got, .val .null] [(.int x2), (.int (0 : Int32)), (.int x1), (.int (1 : Int32)), (.int x3), (.int (0 : Int32))]))
        refine Go.static X30 hx hZ (y := (⟨"com/example/tundra_ascent/tundraascent/rules/StrictlyMostCountPinLaw", "wins", "(ZIZIZI)Z"⟩ : MethodName)) (argsL := [(.int (0 : Int32)), (.int x3), (.int (1 : Int32)), (.int x1), (.int (0 : Int32)), (.int x2)]) hown (hw _ (List.mem_of_getElem? (i := 52) rfl)) (hw _ (List.mem_of_getElem? (i := 53) rfl)) (hw _ (List.mem_of_getElem? (i := 54) rfl)) (hw _ (List.mem_of_getElem? (i := 55) rfl)) (by decide) 0 e30 (rm7 l Z a0 hw (0 : Int32) x3 (1 : Int32) x1 (0 : Int32) x2 T26.heap n0 Zs ) (by decide) (by decide) (by decide) (by decide) (g := (mkF m 247 #[.val (.int x1), .val (.int x2), .val (.int x3), .val (.int x4), .val (.ref al), .val (.int (1 : Int32)), .val (.int r), .val (.ref b0), .val (.ref b1), .val (.ref b2), .val (.int (1 : Int32)), .val (.int (0 : Int32)), .val (.int (0 : Int32)), .val (.ref a), .val got, .val .null] [(.int x2), (.int (0 : Int32)), (.int x1), (.int (1 : Int32)), (.int x3), (.int (0 : Int32))])) rfl (by rw [hml]; rfl) (rest := []) (lenOf pd5 rfl) rfl (by show 2 * 0 + _ ≤ _; exact Nat.le_of_eq rfl) (hb hby at_247) ?_
        intro T31 v31 L31 X31 q31
        obtain ⟨rfl, Nq31, e31⟩ := q31
        have N31 := Fr.app N30 Nq31
        show Go _ _ _ _ _ _ _ (T31.setTop (mkF m 250 #[.val (.int x1), .val (.int x2), .val (.int x3), .val (.int x4), .val (.ref al), .val (.int (1 : Int32)), .val (.int r), .val (.ref b0), .val (.ref b1), .val (.ref b2), .val (.int (1 : Int32)), .val (.int (0 : Int32)), .val (.int (0 : Int32)), .val (.ref a), .val got, .val .null] [(.int (own_w (0 : Int32) x3 (1 : Int32) x1 (0 : Int32) x2))]))
        by_cases c250 : (own_w (0 : Int32) x3 (1 : Int32) x1 (0 : Int32) x2) = (0 : Int32)
        · refine Go.of (fun _ q => XS.ifYes X31.here hx rfl (pc0 := 250) (pc' := 257) rfl (hb hby at_250) rfl ((if0 _ _).trans (teq c250).1) (by decide) (by decide) q) ?_
          show Go _ _ _ _ _ _ _ (T31.setTop (mkF m 257 #[.val (.int x1), .val (.int x2), .val (.int x3), .val (.int x4), .val (.ref al), .val (.int (1 : Int32)), .val (.int r), .val (.ref b0), .val (.ref b1), .val (.ref b2), .val (.int (1 : Int32)), .val (.int (0 : Int32)), .val (.int (0 : Int32)), .val (.ref a), .val got, .val .null] []))
          exact J32 T31 _ _ (pad X31 (by decide) (by decide)) e31 N31 (by rw [if_pos c206, if_pos c228, if_pos c250]) rfl
        · refine Go.of (fun _ q => XS.ifNo X31.here hx rfl (hb hby at_250) rfl ((if0 _ _).trans (feq c250).1) q) ?_
          show Go _ _ _ _ _ _ _ (T31.setTop (mkF m 253 #[.val (.int x1), .val (.int x2), .val (.int x3), .val (.int x4), .val (.ref al), .val (.int (1 : Int32)), .val (.int r), .val (.ref b0), .val (.ref b1), .val (.ref b2), .val (.int (1 : Int32)), .val (.int (0 : Int32)), .val (.int (0 : Int32)), .val (.ref a), .val got, .val .null] []))
          refine Go.of (fun _ q => XS.aload X31.here hx rfl (hb hby at_253) rfl rfl q) ?_
          show Go _ _ _ _ _ _ _ (T31.setTop (mkF m 255 #[.val (.int x1), .val (.int x2), .val (.int x3), .val (.int x4), .val (.ref al), .val (.int (1 : Int32)), .val (.int r), .val (.ref b0), .val (.ref b1), .val (.ref b2), .val (.int (1 : Int32)), .val (.int (0 : Int32)), .val (.int (0 : Int32)), .val (.ref a), .val got, .val .null] [(.ref b2)]))
          refine Go.of (fun _ q => XS.astore X31.here hx rfl (hb hby at_255) rfl rfl (l' := #[.val (.int x1), .val (.int x2), .val (.int x3), .val (.int x4), .val (.ref al), .val (.int (1 : Int32)), .val (.int r), .val (.ref b0), .val (.ref b1), .val (.ref b2), .val (.int (1 : Int32)), .val (.int (0 : Int32)), .val (.int (0 : Int32)), .val (.ref a), .val got, .val (.ref b2)]) rfl q) ?_
          show Go _ _ _ _ _ _ _ (T31.setTop (mkF m 257 #[.val (.int x1), .val (.int x2), .val (.int x3), .val (.int x4), .val (.ref al), .val (.int (1 : Int32)), .val (.int r), .val (.ref b0), .val (.ref b1), .val (.ref b2), .val (.int (1 : Int32)), .val (.int (0 : Int32)), .val (.int (0 : Int32)), .val (.ref a), .val got, .val (.ref b2)] []))
          exact J32 T31 _ _ (pad X31 (by decide) (by decide)) e31 N31 (by rw [if_pos c206, if_pos c228, if_neg c250]) rfl
      · refine Go.of (fun _ q => XS.ifNo X30.here hx rfl (hb hby at_228) rfl ((if0 _ _).trans (feq c228).1) q) ?_
        show Go _ _ _ _ _ _ _ (T30.setTop (mkF m 231 #[.val (.int x1), .val (.int x2), .val (.int x3), .val (.int x4), .val (.ref al), .val (.int (1 : Int32)), .val (.int r), .val (.ref b0), .val (.ref b1), .val (.ref b2), .val (.int (1 : Int32)), .val (.int (0 : Int32)), .val (.int (0 : Int32)), .val (.ref a), .val got, .val .null] []))
        refine Go.of (fun _ q => XS.aload X30.here hx rfl (hb hby at_231) rfl rfl q) ?_
        show Go _ _ _ _ _ _ _ (T30.setTop (mkF m 233 #[.val (.int x1), .val (.int x2), .val (.int x3), .val (.int x4), .val (.ref al), .val (.int (1 : Int32)), .val (.int r), .val (.ref b0), .val (.ref b1), .val (.ref b2), .val (.int (1 : Int32)), .val (.int (0 : Int32)), .val (.int (0 : Int32)), .val (.ref a), .val got, .val .null] [(.ref b1)]))
        refine Go.of (fun _ q => XS.astore X30.here hx rfl (hb hby at_233) rfl rfl (l' := #[.val (.int x1), .val (.int x2), .val (.int x3), .val (.int x4), .val (.ref al), .val (.int (1 : Int32)), .val (.int r), .val (.ref b0), .val (.ref b1), .val (.ref b2), .val (.int (1 : Int32)), .val (.int (0 : Int32)), .val (.int (0 : Int32)), .val (.ref a), .val got, .val (.ref b1)]) rfl q) ?_
        show Go _ _ _ _ _ _ _ (T30.setTop (mkF m 235 #[.val (.int x1), .val (.int x2), .val (.int x3), .val (.int x4), .val (.ref al), .val (.int (1 : Int32)), .val (.int r), .val (.ref b0), .val (.ref b1), .val (.ref b2), .val (.int (1 : Int32)), .val (.int (0 : Int32)), .val (.int (0 : Int32)), .val (.ref a), .val got, .val (.ref b1)] []))
        refine Go.of (fun _ q => XS.goto X30.here hx rfl (pc0 := 235) (pc' := 257) rfl (hb hby at_235) (by decide) (by decide) q) ?_
        show Go _ _ _ _ _ _ _ (T30.setTop (mkF m 257 #[.val (.int x1), .val (.int x2), .val (.int x3), .val (.int x4), .val (.ref al), .val (.int (1 : Int32)), .val (.int r), .val (.ref b0), .val (.ref b1), .val (.ref b2), .val (.int (1 : Int32)), .val (.int (0 : Int32)), .val (.int (0 : Int32)), .val (.ref a), .val got, .val (.ref b1)] []))
        exact J32 T30 _ _ (pad X30 (by decide) (by decide)) e30 N30 (by rw [if_pos c206, if_neg c228]) rfl
    · refine Go.of (fun _ q => XS.ifNo X29.here hx rfl (hb hby at_206) rfl ((if0 _ _).trans (feq c206).1) q) ?_
      show Go _ _ _ _ _ _ _ (T29.setTop (mkF m 209 #[.val (.int x1), .val (.int x2), .val (.int x3), .val (.int x4), .val (.ref al), .val (.int (1 : Int32)), .val (.int r), .val (.ref b0), .val (.ref b1), .val (.ref b2), .val (.int (1 : Int32)), .val (.int (0 : Int32)), .val (.int (0 : Int32)), .val (.ref a), .val got, .val .null] []))
      refine Go.of (fun _ q => XS.aload X29.here hx rfl (hb hby at_209) rfl rfl q) ?_
      show Go _ _ _ _ _ _ _ (T29.setTop (mkF m 211 #[.val (.int x1), .val (.int x2), .val (.int x3), .val (.int x4), .val (.ref al), .val (.int (1 : Int32)), .val (.int r), .val (.ref b0), .val (.ref b1), .val (.ref b2), .val (.int (1 : Int32)), .val (.int (0 : Int32)), .val (.int (0 : Int32)), .val (.ref a), .val got, .val .null] [(.ref b0)]))
      refine Go.of (fun _ q => XS.astore X29.here hx rfl (hb hby at_211) rfl rfl (l' := #[.val (.int x1), .val (.int x2), .val (.int x3), .val (.int x4), .val (.ref al), .val (.int (1 : Int32)), .val (.int r), .val (.ref b0), .val (.ref b1), .val (.ref b2), .val (.int (1 : Int32)), .val (.int (0 : Int32)), .val (.int (0 : Int32)), .val (.ref a), .val got, .val (.ref b0)]) rfl q) ?_
      show Go _ _ _ _ _ _ _ (T29.setTop (mkF m 213 #[.val (.int x1), .val (.int x2), .val (.int x3), .val (.int x4), .val (.ref al), .val (.int (1 : Int32)), .val (.int r), .val (.ref b0), .val (.ref b1), .val (.ref b2), .val (.int (1 : Int32)), .val (.int (0 : Int32)), .val (.int (0 : Int32)), .val (.ref a), .val got, .val (.ref b0)] []))
      refine Go.of (fun _ q => XS.goto X29.here hx rfl (pc0 := 213) (pc' := 257) rfl (hb hby at_213) (by decide) (by decide) q) ?_
      show Go _ _ _ _ _ _ _ (T29.setTop (mkF m 257 #[.val (.int x1), .val (.int x2), .val (.int x3), .val (.int x4), .val (.ref al), .val (.int (1 : Int32)), .val (.int r), .val (.ref b0), .val (.ref b1), .val (.ref b2), .val (.int (1 : Int32)), .val (.int (0 : Int32)), .val (.int (0 : Int32)), .val (.ref a), .val got, .val (.ref b0)] []))
      exact J32 T29 _ _ (pad X29 (by decide) (by decide)) e29 N29 (by rw [if_neg c206]) rfl
  · rw [q3]
    show Go _ _ _ _ _ _ _ (T13.setTop (mkF m 46 #[.val (.int x1), .val (.int x2), .val (.int x3), .val (.int x4), .val (.ref al), .unset, .unset, .unset, .unset, .unset, .unset, .unset, .unset, .unset, .unset, .unset] [(.int (2 : Int32))]))
    refine Go.of (fun _ q => XS.istore X13.here hx rfl (hb hby at_46) rfl (l' := #[.val (.int x1), .val (.int x2), .val (.int x3), .val (.int x4), .val (.ref al), .val (.int (2 : Int32)), .unset, .unset, .unset, .unset, .unset, .unset, .unset, .unset, .unset, .unset]) rfl q) ?_
    show Go _ _ _ _ _ _ _ (T13.setTop (mkF m 48 #[.val (.int x1), .val (.int x2), .val (.int x3), .val (.int x4), .val (.ref al), .val (.int (2 : Int32)), .unset, .unset, .unset, .unset, .unset, .unset, .unset, .unset, .unset, .unset] []))
    refine Go.of (fun _ q => XS.iloadN X13.here hx rfl (hb hby at_48) rfl q) ?_
    show Go _ _ _ _ _ _ _ (T13.setTop (mkF m 49 #[.val (.int x1), .val (.int x2), .val (.int x3), .val (.int x4), .val (.ref al), .val (.int (2 : Int32)), .unset, .unset, .unset, .unset, .unset, .unset, .unset, .unset, .unset, .unset] [(.int x4)]))
    refine Go.of (fun _ q => XS.iconst X13.here hx rfl (hb hby at_49) q) ?_
    show Go _ _ _ _ _ _ _ (T13.setTop (mkF m 50 #[.val (.int x1), .val (.int x2), .val (.int x3), .val (.int x4), .val (.ref al), .val (.int (2 : Int32)), .unset, .unset, .unset, .unset, .unset, .unset, .unset, .unset, .unset, .unset] [(.int (2 : Int32)), (.int x4)]))
    refine Go.of (fun _ q => XS.iushr X13.here hx rfl (hb hby at_50) rfl q) ?_
    show Go _ _ _ _ _ _ _ (T13.setTop (mkF m 51 #[.val (.int x1), .val (.int x2), .val (.int x3), .val (.int x4), .val (.ref al), .val (.int (2 : Int32)), .unset, .unset, .unset, .unset, .unset, .unset, .unset, .unset, .unset, .unset] [(.int ((x4.toUInt32 >>> ((2 : Int32) &&& 31).toUInt32).toInt32))]))
    refine Go.of (fun _ q => X13.ldcInt hx hown (mvT hZ (hw _ (List.mem_of_getElem? (i := 16) rfl))) (g := (mkF m 51 #[.val (.int x1), .val (.int x2), .val (.int x3), .val (.int x4), .val (.ref al), .val (.int (2 : Int32)), .unset, .unset, .unset, .unset, .unset, .unset, .unset, .unset, .unset, .unset] [(.int ((x4.toUInt32 >>> ((2 : Int32) &&& 31).toUInt32).toInt32))])) rfl (hb hby at_51) _ q) ?_
    show Go _ _ _ _ _ _ _ (T13.setTop (mkF m 53 #[.val (.int x1), .val (.int x2), .val (.int x3), .val (.int x4), .val (.ref al), .val (.int (2 : Int32)), .unset, .unset, .unset, .unset, .unset, .unset, .unset, .unset, .unset, .unset] [(.int (2147483647 : Int32)), (.int ((x4.toUInt32 >>> ((2 : Int32) &&& 31).toUInt32).toInt32))]))
    refine Go.of (fun _ q => XS.iand X13.here hx rfl (hb hby at_53) rfl q) ?_
    show Go _ _ _ _ _ _ _ (T13.setTop (mkF m 54 #[.val (.int x1), .val (.int x2), .val (.int x3), .val (.int x4), .val (.ref al), .val (.int (2 : Int32)), .unset, .unset, .unset, .unset, .unset, .unset, .unset, .unset, .unset, .unset] [(.int (((x4.toUInt32 >>> ((2 : Int32) &&& 31).toUInt32).toInt32) &&& (2147483647 : Int32)))]))
    refine Go.of (fun _ q => XS.bipush X13.here hx rfl (hb hby at_54) q) ?_
    show Go _ _ _ _ _ _ _ (T13.setTop (mkF m 56 #[.val (.int x1), .val (.int x2), .val (.int x3), .val (.int x4), .val (.ref al), .val (.int (2 : Int32)), .unset, .unset, .unset, .unset, .unset, .unset, .unset, .unset, .unset, .unset] [(.int (6 : Int32)), (.int (((x4.toUInt32 >>> ((2 : Int32) &&& 31).toUInt32).toInt32) &&& (2147483647 : Int32)))]))
    refine Go.of (fun _ q => iremM X13 hx rfl (hb hby at_56) rfl (by decide) q) ?_
    show Go _ _ _ _ _ _ _ (T13.setTop (mkF m 57 #[.val (.int x1), .val (.int x2), .val (.int x3), .val (.int x4), .val (.ref al), .val (.int (2 : Int32)), .unset, .unset, .unset, .unset, .unset, .unset, .unset, .unset, .unset, .unset] [(.int ((((x4.toUInt32 >>> ((2 : Int32) &&& 31).toUInt32).toInt32) &&& (2147483647 : Int32)) % (6 : Int32)))]))
    refine Go.of (fun _ q => XS.istore X13.here hx rfl (hb hby at_57) rfl (l' := #[.val (.int x1), .val (.int x2), .val (.int x3), .val (.int x4), .val (.ref al), .val (.int (2 : Int32)), .val (.int ((((x4.toUInt32 >>> ((2 : Int32) &&& 31).toUInt32).toInt32) &&& (2147483647 : Int32)) % (6 : Int32))), .unset, .unset, .unset, .unset, .unset, .unset, .unset, .unset, .unset]) rfl q) ?_
    obtain ⟨r, hr⟩ : ∃ z, z = ((((x4.toUInt32 >>> ((2 : Int32) &&& 31).toUInt32).toInt32) &&& (2147483647 : Int32)) % (6 : Int32)) := ⟨_, rfl⟩
    rw [← hr]
    show Go _ _ _ _ _ _ _ (T13.setTop (mkF m 59 #[.val (.int x1), .val (.int x2), .val (.int x3), .val (.int x4), .val (.ref al), .val (.int (2 : Int32)), .val (.int r), .unset, .unset, .unset, .unset, .unset, .unset, .unset, .unset, .unset] []))
    refine Go.of (fun _ q => XS.aload X13.here hx rfl (hb hby at_59) rfl rfl q) ?_
    show Go _ _ _ _ _ _ _ (T13.setTop (mkF m 61 #[.val (.int x1), .val (.int x2), .val (.int x3), .val (.int x4), .val (.ref al), .val (.int (2 : Int32)), .val (.int r), .unset, .unset, .unset, .unset, .unset, .unset, .unset, .unset, .unset] [(.ref al)]))
    refine Go.of (fun _ q => XS.iload X13.here hx rfl (hb hby at_61) rfl q) ?_
    have rr0 := own_irem ((((x4.toUInt32 >>> ((2 : Int32) &&& 31).toUInt32).toInt32) &&& (2147483647 : Int32))) (6 : Int32) (own_mask _).1 rfl
    rw [← hr] at rr0
    have ix0 := rr0.1
    obtain ⟨b0, hb0, E_b0⟩ := own_pick (Exa.ext Od.2 E_0) (Exa.ext Od.2 E_1) (Exa.ext Od.2 E_2) (Exa.ext Od.2 E_3) (Exa.ext Od.2 E_4) (Exa.ext Od.2 E_5) _ ix0.2.2
    show Go _ _ _ _ _ _ _ (T13.setTop (mkF m 63 #[.val (.int x1), .val (.int x2), .val (.int x3), .val (.int x4), .val (.ref al), .val (.int (2 : Int32)), .val (.int r), .unset, .unset, .unset, .unset, .unset, .unset, .unset, .unset, .unset] [(.int r), (.ref al)]))
    refine Go.of (fun _ q => AF.aaload A_al rfl X13 hx hZ e13 ix0 (v := (.ref b0)) hb0 (g := (mkF m 63 #[.val (.int x1), .val (.int x2), .val (.int x3), .val (.int x4), .val (.ref al), .val (.int (2 : Int32)), .val (.int r), .unset, .unset, .unset, .unset, .unset, .unset, .unset, .unset, .unset] [(.int r), (.ref al)])) rfl rfl (hb hby at_63) q) ?_
    show Go _ _ _ _ _ _ _ (T13.setTop (mkF m 64 #[.val (.int x1), .val (.int x2), .val (.int x3), .val (.int x4), .val (.ref al), .val (.int (2 : Int32)), .val (.int r), .unset, .unset, .unset, .unset, .unset, .unset, .unset, .unset, .unset] [(.ref b0)]))
    refine Go.of (fun _ q => XS.astore X13.here hx rfl (hb hby at_64) rfl rfl (l' := #[.val (.int x1), .val (.int x2), .val (.int x3), .val (.int x4), .val (.ref al), .val (.int (2 : Int32)), .val (.int r), .val (.ref b0), .unset, .unset, .unset, .unset, .unset, .unset, .unset, .unset]) rfl q) ?_
    show Go _ _ _ _ _ _ _ (T13.setTop (mkF m 66 #[.val (.int x1), .val (.int x2), .val (.int x3), .val (.int x4), .val (.ref al), .val (.int (2 : Int32)), .val (.int r), .val (.ref b0), .unset, .unset, .unset, .unset, .unset, .unset, .unset, .unset] []))
    refine Go.of (fun _ q => XS.aload X13.here hx rfl (hb hby at_66) rfl rfl q) ?_
    show Go _ _ _ _ _ _ _ (T13.setTop (mkF m 68 #[.val (.int x1), .val (.int x2), .val (.int x3), .val (.int x4), .val (.ref al), .val (.int (2 : Int32)), .val (.int r), .val (.ref b0), .unset, .unset, .unset, .unset, .unset, .unset, .unset, .unset] [(.ref al)]))
    refine Go.of (fun _ q => XS.iload X13.here hx rfl (hb hby at_68) rfl q) ?_
    show Go _ _ _ _ _ _ _ (T13.setTop (mkF m 70 #[.val (.int x1), .val (.int x2), .val (.int x3), .val (.int x4), .val (.ref al), .val (.int (2 : Int32)), .val (.int r), .val (.ref b0), .unset, .unset, .unset, .unset, .unset, .unset, .unset, .unset] [(.int r), (.ref al)]))
    refine Go.of (fun _ q => XS.iconst X13.here hx rfl (hb hby at_70) q) ?_
    show Go _ _ _ _ _ _ _ (T13.setTop (mkF m 71 #[.val (.int x1), .val (.int x2), .val (.int x3), .val (.int x4), .val (.ref al), .val (.int (2 : Int32)), .val (.int r), .val (.ref b0), .unset, .unset, .unset, .unset, .unset, .unset, .unset, .unset] [(.int (1 : Int32)), (.int r), (.ref al)]))
    refine Go.of (fun _ q => XS.iadd X13.here hx rfl (hb hby at_71) rfl q) ?_
    show Go _ _ _ _ _ _ _ (T13.setTop (mkF m 72 #[.val (.int x1), .val (.int x2), .val (.int x3), .val (.int x4), .val (.ref al), .val (.int (2 : Int32)), .val (.int r), .val (.ref b0), .unset, .unset, .unset, .unset, .unset, .unset, .unset, .unset] [(.int (r + (1 : Int32))), (.ref al)]))
    refine Go.of (fun _ q => XS.bipush X13.here hx rfl (hb hby at_72) q) ?_
    show Go _ _ _ _ _ _ _ (T13.setTop (mkF m 74 #[.val (.int x1), .val (.int x2), .val (.int x3), .val (.int x4), .val (.ref al), .val (.int (2 : Int32)), .val (.int r), .val (.ref b0), .unset, .unset, .unset, .unset, .unset, .unset, .unset, .unset] [(.int (6 : Int32)), (.int (r + (1 : Int32))), (.ref al)]))
    refine Go.of (fun _ q => iremM X13 hx rfl (hb hby at_74) rfl (by decide) q) ?_
    have ix1 := (own_irem (r + (1 : Int32)) (6 : Int32) (own_add r (1 : Int32) 1 (by decide) rr0.2.1 rr0.2.2 (by decide)).1 rfl).1
    obtain ⟨b1, hb1, E_b1⟩ := own_pick (Exa.ext Od.2 E_0) (Exa.ext Od.2 E_1) (Exa.ext Od.2 E_2) (Exa.ext Od.2 E_3) (Exa.ext Od.2 E_4) (Exa.ext Od.2 E_5) _ ix1.2.2
    show Go _ _ _ _ _ _ _ (T13.setTop (mkF m 75 #[.val (.int x1), .val (.int x2), .val (.int x3), .val (.int x4), .val (.ref al), .val (.int (2 : Int32)), .val (.int r), .val (.ref b0), .unset, .unset, .unset, .unset, .unset, .unset, .unset, .unset] [(.int ((r + (1 : Int32)) % (6 : Int32))), (.ref al)]))
    refine Go.of (fun _ q => AF.aaload A_al rfl X13 hx hZ e13 ix1 (v := (.ref b1)) hb1 (g := (mkF m 75 #[.val (.int x1), .val (.int x2), .val (.int x3), .val (.int x4), .val (.ref al), .val (.int (2 : Int32)), .val (.int r), .val (.ref b0), .unset, .unset, .unset, .unset, .unset, .unset, .unset, .unset] [(.int ((r + (1 : Int32)) % (6 : Int32))), (.ref al)])) rfl rfl (hb hby at_75) q) ?_
    show Go _ _ _ _ _ _ _ (T13.setTop (mkF m 76 #[.val (.int x1), .val (.int x2), .val (.int x3), .val (.int x4), .val (.ref al), .val (.int (2 : Int32)), .val (.int r), .val (.ref b0), .unset, .unset, .unset, .unset, .unset, .unset, .unset, .unset] [(.ref b1)]))
    refine Go.of (fun _ q => XS.astore X13.here hx rfl (hb hby at_76) rfl rfl (l' := #[.val (.int x1), .val (.int x2), .val (.int x3), .val (.int x4), .val (.ref al), .val (.int (2 : Int32)), .val (.int r), .val (.ref b0), .val (.ref b1), .unset, .unset, .unset, .unset, .unset, .unset, .unset]) rfl q) ?_
    show Go _ _ _ _ _ _ _ (T13.setTop (mkF m 78 #[.val (.int x1), .val (.int x2), .val (.int x3), .val (.int x4), .val (.ref al), .val (.int (2 : Int32)), .val (.int r), .val (.ref b0), .val (.ref b1), .unset, .unset, .unset, .unset, .unset, .unset, .unset] []))
    refine Go.of (fun _ q => XS.aload X13.here hx rfl (hb hby at_78) rfl rfl q) ?_
    show Go _ _ _ _ _ _ _ (T13.setTop (mkF m 80 #[.val (.int x1), .val (.int x2), .val (.int x3), .val (.int x4), .val (.ref al), .val (.int (2 : Int32)), .val (.int r), .val (.ref b0), .val (.ref b1), .unset, .unset, .unset, .unset, .unset, .unset, .unset] [(.ref al)]))
    refine Go.of (fun _ q => XS.iload X13.here hx rfl (hb hby at_80) rfl q) ?_
    show Go _ _ _ _ _ _ _ (T13.setTop (mkF m 82 #[.val (.int x1), .val (.int x2), .val (.int x3), .val (.int x4), .val (.ref al), .val (.int (2 : Int32)), .val (.int r), .val (.ref b0), .val (.ref b1), .unset, .unset, .unset, .unset, .unset, .unset, .unset] [(.int r), (.ref al)]))
    refine Go.of (fun _ q => XS.iconst X13.here hx rfl (hb hby at_82) q) ?_
    show Go _ _ _ _ _ _ _ (T13.setTop (mkF m 83 #[.val (.int x1), .val (.int x2), .val (.int x3), .val (.int x4), .val (.ref al), .val (.int (2 : Int32)), .val (.int r), .val (.ref b0), .val (.ref b1), .unset, .unset, .unset, .unset, .unset, .unset, .unset] [(.int (2 : Int32)), (.int r), (.ref al)]))
    refine Go.of (fun _ q => XS.iadd X13.here hx rfl (hb hby at_83) rfl q) ?_
    show Go _ _ _ _ _ _ _ (T13.setTop (mkF m 84 #[.val (.int x1), .val (.int x2), .val (.int x3), .val (.int x4), .val (.ref al), .val (.int (2 : Int32)), .val (.int r), .val (.ref b0), .val (.ref b1), .unset, .unset, .unset, .unset, .unset, .unset, .unset] [(.int (r + (2 : Int32))), (.ref al)]))
    refine Go.of (fun _ q => XS.bipush X13.here hx rfl (hb hby at_84) q) ?_
    show Go _ _ _ _ _ _ _ (T13.setTop (mkF m 86 #[.val (.int x1), .val (.int x2), .val (.int x3), .val (.int x4), .val (.ref al), .val (.int (2 : Int32)), .val (.int r), .val (.ref b0), .val (.ref b1), .unset, .unset, .unset, .unset, .unset, .unset, .unset] [(.int (6 : Int32)), (.int (r + (2 : Int32))), (.ref al)]))
    refine Go.of (fun _ q => iremM X13 hx rfl (hb hby at_86) rfl (by decide) q) ?_
    have ix2 := (own_irem (r + (2 : Int32)) (6 : Int32) (own_add r (2 : Int32) 2 (by decide) rr0.2.1 rr0.2.2 (by decide)).1 rfl).1
    obtain ⟨b2, hb2, E_b2⟩ := own_pick (Exa.ext Od.2 E_0) (Exa.ext Od.2 E_1) (Exa.ext Od.2 E_2) (Exa.ext Od.2 E_3) (Exa.ext Od.2 E_4) (Exa.ext Od.2 E_5) _ ix2.2.2
    show Go _ _ _ _ _ _ _ (T13.setTop (mkF m 87 #[.val (.int x1), .val (.int x2), .val (.int x3), .val (.int x4), .val (.ref al), .val (.int (2 : Int32)), .val (.int r), .val (.ref b0), .val (.ref b1), .unset, .unset, .unset, .unset, .unset, .unset, .unset] [(.int ((r + (2 : Int32)) % (6 : Int32))), (.ref al)]))
    refine Go.of (fun _ q => AF.aaload A_al rfl X13 hx hZ e13 ix2 (v := (.ref b2)) hb2 (g := (mkF m 87 #[.val (.int x1), .val (.int x2), .val (.int x3), .val (.int x4), .val (.ref al), .val (.int (2 : Int32)), .val (.int r), .val (.ref b0), .val (.ref b1), .unset, .unset, .unset, .unset, .unset, .unset, .unset] [(.int ((r + (2 : Int32)) % (6 : Int32))), (.ref al)])) rfl rfl (hb hby at_87) q) ?_
    show Go _ _ _ _ _ _ _ (T13.setTop (mkF m 88 #[.val (.int x1), .val (.int x2), .val (.int x3), .val (.int x4), .val (.ref al), .val (.int (2 : Int32)), .val (.int r), .val (.ref b0), .val (.ref b1), .unset, .unset, .unset, .unset, .unset, .unset, .unset] [(.ref b2)]))
    refine Go.of (fun _ q => XS.astore X13.here hx rfl (hb hby at_88) rfl rfl (l' := #[.val (.int x1), .val (.int x2), .val (.int x3), .val (.int x4), .val (.ref al), .val (.int (2 : Int32)), .val (.int r), .val (.ref b0), .val (.ref b1), .val (.ref b2), .unset, .unset, .unset, .unset, .unset, .unset]) rfl q) ?_
    show Go _ _ _ _ _ _ _ (T13.setTop (mkF m 90 #[.val (.int x1), .val (.int x2), .val (.int x3), .val (.int x4), .val (.ref al), .val (.int (2 : Int32)), .val (.int r), .val (.ref b0), .val (.ref b1), .val (.ref b2), .unset, .unset, .unset, .unset, .unset, .unset] []))
    refine Go.of (fun _ q => XS.iload X13.here hx rfl (hb hby at_90) rfl q) ?_
    show Go _ _ _ _ _ _ _ (T13.setTop (mkF m 92 #[.val (.int x1), .val (.int x2), .val (.int x3), .val (.int x4), .val (.ref al), .val (.int (2 : Int32)), .val (.int r), .val (.ref b0), .val (.ref b1), .val (.ref b2), .unset, .unset, .unset, .unset, .unset, .unset] [(.int (2 : Int32))]))
    refine Go.of (fun _ q => XS.iconst X13.here hx rfl (hb hby at_92) q) ?_
    show Go _ _ _ _ _ _ _ (T13.setTop (mkF m 93 #[.val (.int x1), .val (.int x2), .val (.int x3), .val (.int x4), .val (.ref al), .val (.int (2 : Int32)), .val (.int r), .val (.ref b0), .val (.ref b1), .val (.ref b2), .unset, .unset, .unset, .unset, .unset, .unset] [(.int (1 : Int32)), (.int (2 : Int32))]))
    refine Go.of (fun _ q => XS.icmpNo X13.here hx rfl (hb hby at_93) rfl (flt (by decide)).1 q) ?_
    show Go _ _ _ _ _ _ _ (T13.setTop (mkF m 96 #[.val (.int x1), .val (.int x2), .val (.int x3), .val (.int x4), .val (.ref al), .val (.int (2 : Int32)), .val (.int r), .val (.ref b0), .val (.ref b1), .val (.ref b2), .unset, .unset, .unset, .unset, .unset, .unset] []))
    refine Go.of (fun _ q => XS.iconst X13.here hx rfl (hb hby at_96) q) ?_
    show Go _ _ _ _ _ _ _ (T13.setTop (mkF m 97 #[.val (.int x1), .val (.int x2), .val (.int x3), .val (.int x4), .val (.ref al), .val (.int (2 : Int32)), .val (.int r), .val (.ref b0), .val (.ref b1), .val (.ref b2), .unset, .unset, .unset, .unset, .unset, .unset] [(.int (1 : Int32))]))
    refine Go.of (fun _ q => XS.goto X13.here hx rfl (pc0 := 97) (pc' := 101) rfl (hb hby at_97) (by decide) (by decide) q) ?_
    show Go _ _ _ _ _ _ _ (T13.setTop (mkF m 101 #[.val (.int x1), .val (.int x2), .val (.int x3), .val (.int x4), .val (.ref al), .val (.int (2 : Int32)), .val (.int r), .val (.ref b0), .val (.ref b1), .val (.ref b2), .unset, .unset, .unset, .unset, .unset, .unset] [(.int (1 : Int32))]))
    refine Go.of (fun _ q => XS.istore X13.here hx rfl (hb hby at_101) rfl (l' := #[.val (.int x1), .val (.int x2), .val (.int x3), .val (.int x4), .val (.ref al), .val (.int (2 : Int32)), .val (.int r), .val (.ref b0), .val (.ref b1), .val (.ref b2), .val (.int (1 : Int32)), .unset, .unset, .unset, .unset, .unset]) rfl q) ?_
    show Go _ _ _ _ _ _ _ (T13.setTop (mkF m 103 #[.val (.int x1), .val (.int x2), .val (.int x3), .val (.int x4), .val (.ref al), .val (.int (2 : Int32)), .val (.int r), .val (.ref b0), .val (.ref b1), .val (.ref b2), .val (.int (1 : Int32)), .unset, .unset, .unset, .unset, .unset] []))
    refine Go.of (fun _ q => XS.iload X13.here hx rfl (hb hby at_103) rfl q) ?_
    show Go _ _ _ _ _ _ _ (T13.setTop (mkF m 105 #[.val (.int x1), .val (.int x2), .val (.int x3), .val (.int x4), .val (.ref al), .val (.int (2 : Int32)), .val (.int r), .val (.ref b0), .val (.ref b1), .val (.ref b2), .val (.int (1 : Int32)), .unset, .unset, .unset, .unset, .unset] [(.int (2 : Int32))]))
    refine Go.of (fun _ q => XS.iconst X13.here hx rfl (hb hby at_105) q) ?_
    show Go _ _ _ _ _ _ _ (T13.setTop (mkF m 106 #[.val (.int x1), .val (.int x2), .val (.int x3), .val (.int x4), .val (.ref al), .val (.int (2 : Int32)), .val (.int r), .val (.ref b0), .val (.ref b1), .val (.ref b2), .val (.int (1 : Int32)), .unset, .unset, .unset, .unset, .unset] [(.int (2 : Int32)), (.int (2 : Int32))]))
    refine Go.of (fun _ q => XS.icmpNo X13.here hx rfl (hb hby at_106) rfl (flt (by decide)).1 q) ?_
    show Go _ _ _ _ _ _ _ (T13.setTop (mkF m 109 #[.val (.int x1), .val (.int x2), .val (.int x3), .val (.int x4), .val (.ref al), .val (.int (2 : Int32)), .val (.int r), .val (.ref b0), .val (.ref b1), .val (.ref b2), .val (.int (1 : Int32)), .unset, .unset, .unset, .unset, .unset] []))
    refine Go.of (fun _ q => XS.iconst X13.here hx rfl (hb hby at_109) q) ?_
    show Go _ _ _ _ _ _ _ (T13.setTop (mkF m 110 #[.val (.int x1), .val (.int x2), .val (.int x3), .val (.int x4), .val (.ref al), .val (.int (2 : Int32)), .val (.int r), .val (.ref b0), .val (.ref b1), .val (.ref b2), .val (.int (1 : Int32)), .unset, .unset, .unset, .unset, .unset] [(.int (1 : Int32))]))
    refine Go.of (fun _ q => XS.goto X13.here hx rfl (pc0 := 110) (pc' := 114) rfl (hb hby at_110) (by decide) (by decide) q) ?_
    show Go _ _ _ _ _ _ _ (T13.setTop (mkF m 114 #[.val (.int x1), .val (.int x2), .val (.int x3), .val (.int x4), .val (.ref al), .val (.int (2 : Int32)), .val (.int r), .val (.ref b0), .val (.ref b1), .val (.ref b2), .val (.int (1 : Int32)), .unset, .unset, .unset, .unset, .unset] [(.int (1 : Int32))]))
    refine Go.of (fun _ q => XS.istore X13.here hx rfl (hb hby at_114) rfl (l' := #[.val (.int x1), .val (.int x2), .val (.int x3), .val (.int x4), .val (.ref al), .val (.int (2 : Int32)), .val (.int r), .val (.ref b0), .val (.ref b1), .val (.ref b2), .val (.int (1 : Int32)), .val (.int (1 : Int32)), .unset, .unset, .unset, .unset]) rfl q) ?_
    show Go _ _ _ _ _ _ _ (T13.setTop (mkF m 116 #[.val (.int x1), .val (.int x2), .val (.int x3), .val (.int x4), .val (.ref al), .val (.int (2 : Int32)), .val (.int r), .val (.ref b0), .val (.ref b1), .val (.ref b2), .val (.int (1 : Int32)), .val (.int (1 : Int32)), .unset, .unset, .unset, .unset] []))
    refine Go.of (fun _ q => XS.iload X13.here hx rfl (hb hby at_116) rfl q) ?_
    show Go _ _ _ _ _ _ _ (T13.setTop (mkF m 118 #[.val (.int x1), .val (.int x2), .val (.int x3), .val (.int x4), .val (.ref al), .val (.int (2 : Int32)), .val (.int r), .val (.ref b0), .val (.ref b1), .val (.ref b2), .val (.int (1 : Int32)), .val (.int (1 : Int32)), .unset, .unset, .unset, .unset] [(.int (2 : Int32))]))
    refine Go.of (fun _ q => XS.iconst X13.here hx rfl (hb hby at_118) q) ?_
    show Go _ _ _ _ _ _ _ (T13.setTop (mkF m 119 #[.val (.int x1), .val (.int x2), .val (.int x3), .val (.int x4), .val (.ref al), .val (.int (2 : Int32)), .val (.int r), .val (.ref b0), .val (.ref b1), .val (.ref b2), .val (.int (1 : Int32)), .val (.int (1 : Int32)), .unset, .unset, .unset, .unset] [(.int (3 : Int32)), (.int (2 : Int32))]))
    refine Go.of (fun _ q => XS.icmpYes X13.here hx rfl (pc0 := 119) (pc' := 126) rfl (hb hby at_119) rfl (tlt (by decide)).1 (by decide) (by decide) q) ?_
    show Go _ _ _ _ _ _ _ (T13.setTop (mkF m 126 #[.val (.int x1), .val (.int x2), .val (.int x3), .val (.int x4), .val (.ref al), .val (.int (2 : Int32)), .val (.int r), .val (.ref b0), .val (.ref b1), .val (.ref b2), .val (.int (1 : Int32)), .val (.int (1 : Int32)), .unset, .unset, .unset, .unset] []))
    refine Go.of (fun _ q => XS.iconst X13.here hx rfl (hb hby at_126) q) ?_
    show Go _ _ _ _ _ _ _ (T13.setTop (mkF m 127 #[.val (.int x1), .val (.int x2), .val (.int x3), .val (.int x4), .val (.ref al), .val (.int (2 : Int32)), .val (.int r), .val (.ref b0), .val (.ref b1), .val (.ref b2), .val (.int (1 : Int32)), .val (.int (1 : Int32)), .unset, .unset, .unset, .unset] [(.int (0 : Int32))]))
    refine Go.of (fun _ q => XS.istore X13.here hx rfl (hb hby at_127) rfl (l' := #[.val (.int x1), .val (.int x2), .val (.int x3), .val (.int x4), .val (.ref al), .val (.int (2 : Int32)), .val (.int r), .val (.ref b0), .val (.ref b1), .val (.ref b2), .val (.int (1 : Int32)), .val (.int (1 : Int32)), .val (.int (0 : Int32)), .unset, .unset, .unset]) rfl q) ?_
    show Go _ _ _ _ _ _ _ (T13.setTop (mkF m 129 #[.val (.int x1), .val (.int x2), .val (.int x3), .val (.int x4), .val (.ref al), .val (.int (2 : Int32)), .val (.int r), .val (.ref b0), .val (.ref b1), .val (.ref b2), .val (.int (1 : Int32)), .val (.int (1 : Int32)), .val (.int (0 : Int32)), .unset, .unset, .unset] []))
    obtain ⟨T33, h33, X33, e33, E33, A33, D33, -, st33⟩ := newO X13 hx hZ hown (hw _ (List.mem_of_getElem? (i := 17) rfl)) (hw _ (List.mem_of_getElem? (i := 18) rfl)) (hw _ (List.mem_of_getElem? (i := 19) rfl)) e13 (g := (mkF m 129 #[.val (.int x1), .val (.int x2), .val (.int x3), .val (.int x4), .val (.ref al), .val (.int (2 : Int32)), .val (.int r), .val (.ref b0), .val (.ref b1), .val (.ref b2), .val (.int (1 : Int32)), .val (.int (1 : Int32)), .val (.int (0 : Int32)), .unset, .unset, .unset] [])) rfl (hb hby at_129) (by decide) (by decide)
    obtain ⟨a, g33⟩ : ∃ z, z = h13.size := ⟨_, rfl⟩
    rw [← g33] at A33 D33 st33
    refine Go.of st33 ?_
    have g_a : n0 ≤ a := Nat.le_trans Zs (Nat.le_of_eq g33.symm)
    have sz_a : h0.size ≤ a := Nat.le_trans Kp.1 (Nat.le_of_eq g33.symm)
    have ne_al_a : al ≠ a := Nat.ne_of_lt (Nat.lt_of_lt_of_le E_al.lt (Nat.le_of_eq g33.symm))
    have ne_b0_a : b0 ≠ a := Nat.ne_of_lt (Nat.lt_of_lt_of_le E_b0.lt (Nat.le_of_eq g33.symm))
    have ne_b1_a : b1 ≠ a := Nat.ne_of_lt (Nat.lt_of_lt_of_le E_b1.lt (Nat.le_of_eq g33.symm))
    have ne_b2_a : b2 ≠ a := Nat.ne_of_lt (Nat.lt_of_lt_of_le E_b2.lt (Nat.le_of_eq g33.symm))
    have Zs := Nat.le_trans Zs E33.1
    have Kp := Kp.ext E33
    have Od := Od.ext E33
    have E_al := E_al.ext E33
    have A_al := A_al.ext E33
    have E_b0 := E_b0.ext E33
    have E_b1 := E_b1.ext E33
    have E_b2 := E_b2.ext E33
    have E_a := A33
    have F_a_highestCount : Fld Z h33 a "com/example/tundra_ascent/tundraascent/rules/StrictlyMost" "highestCount" "I" (.int (0 : Int32)) := D33 (Or.inl (hw _ (List.mem_of_getElem? (i := 32) rfl))) (ty := .int) (by decide)
    have F_a_tied : Fld Z h33 a "com/example/tundra_ascent/tundraascent/rules/StrictlyMost" "tied" "Z" (.int (0 : Int32)) := D33 (Or.inl (hw _ (List.mem_of_getElem? (i := 34) rfl))) (ty := .boolean) (by decide)
    have F_a_highest : Fld Z h33 a "com/example/tundra_ascent/tundraascent/rules/StrictlyMost" "highest" "Lcom/example/tundra_ascent/tundraascent/rules/Animal;" .null := D33 (Or.inl (hw _ (List.mem_of_getElem? (i := 57) rfl))) (ty := (.object "com/example/tundra_ascent/tundraascent/rules/Animal")) (by decide)
    show Go _ _ _ _ _ _ _ (T33.setTop (mkF m 132 #[.val (.int x1), .val (.int x2), .val (.int x3), .val (.int x4), .val (.ref al), .val (.int (2 : Int32)), .val (.int r), .val (.ref b0), .val (.ref b1), .val (.ref b2), .val (.int (1 : Int32)), .val (.int (1 : Int32)), .val (.int (0 : Int32)), .unset, .unset, .unset] [(.ref a)]))
    refine Go.of (fun _ q => XS.dup X33.here hx rfl (hb hby at_132) rfl rfl q) ?_
    show Go _ _ _ _ _ _ _ (T33.setTop (mkF m 133 #[.val (.int x1), .val (.int x2), .val (.int x3), .val (.int x4), .val (.ref al), .val (.int (2 : Int32)), .val (.int r), .val (.ref b0), .val (.ref b1), .val (.ref b2), .val (.int (1 : Int32)), .val (.int (1 : Int32)), .val (.int (0 : Int32)), .unset, .unset, .unset] [(.ref a), (.ref a)]))
    refine Go.special X33 hx hZ (y := (⟨"com/example/tundra_ascent/tundraascent/rules/StrictlyMost", "<init>", "()V"⟩ : MethodName)) (a := a) (argsL := []) rfl hown (hw _ (List.mem_of_getElem? (i := 20) rfl)) (hw _ (List.mem_of_getElem? (i := 21) rfl)) (hw _ (List.mem_of_getElem? (i := 19) rfl)) (hw _ (List.mem_of_getElem? (i := 22) rfl)) (by decide) 1 e33 (rm1 l Z a0 hw a h33 n0 Zs ) (by decide) (by decide) (by decide) (by decide) (g := (mkF m 133 #[.val (.int x1), .val (.int x2), .val (.int x3), .val (.int x4), .val (.ref al), .val (.int (2 : Int32)), .val (.int r), .val (.ref b0), .val (.ref b1), .val (.ref b2), .val (.int (1 : Int32)), .val (.int (1 : Int32)), .val (.int (0 : Int32)), .unset, .unset, .unset] [(.ref a), (.ref a)])) rfl (by rw [hml]; rfl) (rest := [(.ref a)]) (lenOf pd3 rfl) rfl (by show 2 * 0 + _ ≤ _; exact Nat.le_of_eq rfl) (hb hby at_133) ?_
    intro T34 v34 L34 X34 q34
    obtain ⟨rfl, Nq34, e34⟩ := q34
    have N34 := Fr.app N13 Nq34
    show Go _ _ _ _ _ _ _ (T34.setTop (mkF m 136 #[.val (.int x1), .val (.int x2), .val (.int x3), .val (.int x4), .val (.ref al), .val (.int (2 : Int32)), .val (.int r), .val (.ref b0), .val (.ref b1), .val (.ref b2), .val (.int (1 : Int32)), .val (.int (1 : Int32)), .val (.int (0 : Int32)), .unset, .unset, .unset] [(.ref a)]))
    refine Go.of (fun _ q => XS.astore X34.here hx rfl (hb hby at_136) rfl rfl (l' := #[.val (.int x1), .val (.int x2), .val (.int x3), .val (.int x4), .val (.ref al), .val (.int (2 : Int32)), .val (.int r), .val (.ref b0), .val (.ref b1), .val (.ref b2), .val (.int (1 : Int32)), .val (.int (1 : Int32)), .val (.int (0 : Int32)), .val (.ref a), .unset, .unset]) rfl q) ?_
    show Go _ _ _ _ _ _ _ (T34.setTop (mkF m 138 #[.val (.int x1), .val (.int x2), .val (.int x3), .val (.int x4), .val (.ref al), .val (.int (2 : Int32)), .val (.int r), .val (.ref b0), .val (.ref b1), .val (.ref b2), .val (.int (1 : Int32)), .val (.int (1 : Int32)), .val (.int (0 : Int32)), .val (.ref a), .unset, .unset] []))
    refine Go.of (fun _ q => XS.iload X34.here hx rfl (hb hby at_138) rfl q) ?_
    show Go _ _ _ _ _ _ _ (T34.setTop (mkF m 140 #[.val (.int x1), .val (.int x2), .val (.int x3), .val (.int x4), .val (.ref al), .val (.int (2 : Int32)), .val (.int r), .val (.ref b0), .val (.ref b1), .val (.ref b2), .val (.int (1 : Int32)), .val (.int (1 : Int32)), .val (.int (0 : Int32)), .val (.ref a), .unset, .unset] [(.int (1 : Int32))]))
    refine Go.of (fun _ q => XS.ifNo X34.here hx rfl (hb hby at_140) rfl ((if0 _ _).trans (feq (by decide)).1) q) ?_
    show Go _ _ _ _ _ _ _ (T34.setTop (mkF m 143 #[.val (.int x1), .val (.int x2), .val (.int x3), .val (.int x4), .val (.ref al), .val (.int (2 : Int32)), .val (.int r), .val (.ref b0), .val (.ref b1), .val (.ref b2), .val (.int (1 : Int32)), .val (.int (1 : Int32)), .val (.int (0 : Int32)), .val (.ref a), .unset, .unset] []))
    refine Go.of (fun _ q => XS.aload X34.here hx rfl (hb hby at_143) rfl rfl q) ?_
    show Go _ _ _ _ _ _ _ (T34.setTop (mkF m 145 #[.val (.int x1), .val (.int x2), .val (.int x3), .val (.int x4), .val (.ref al), .val (.int (2 : Int32)), .val (.int r), .val (.ref b0), .val (.ref b1), .val (.ref b2), .val (.int (1 : Int32)), .val (.int (1 : Int32)), .val (.int (0 : Int32)), .val (.ref a), .unset, .unset] [(.ref a)]))
    refine Go.of (fun _ q => XS.aload X34.here hx rfl (hb hby at_145) rfl rfl q) ?_
    show Go _ _ _ _ _ _ _ (T34.setTop (mkF m 147 #[.val (.int x1), .val (.int x2), .val (.int x3), .val (.int x4), .val (.ref al), .val (.int (2 : Int32)), .val (.int r), .val (.ref b0), .val (.ref b1), .val (.ref b2), .val (.int (1 : Int32)), .val (.int (1 : Int32)), .val (.int (0 : Int32)), .val (.ref a), .unset, .unset] [(.ref b0), (.ref a)]))
    refine Go.of (fun _ q => XS.iloadN X34.here hx rfl (hb hby at_147) rfl q) ?_
    show Go _ _ _ _ _ _ _ (T34.setTop (mkF m 148 #[.val (.int x1), .val (.int x2), .val (.int x3), .val (.int x4), .val (.ref al), .val (.int (2 : Int32)), .val (.int r), .val (.ref b0), .val (.ref b1), .val (.ref b2), .val (.int (1 : Int32)), .val (.int (1 : Int32)), .val (.int (0 : Int32)), .val (.ref a), .unset, .unset] [(.int x1), (.ref b0), (.ref a)]))
    refine Go.virtual X34 hx hZ (y := (⟨"com/example/tundra_ascent/tundraascent/rules/StrictlyMost", "count", "(Lcom/example/tundra_ascent/tundraascent/rules/Animal;I)V"⟩ : MethodName)) (z := (⟨"com/example/tundra_ascent/tundraascent/rules/StrictlyMost", "count", "(Lcom/example/tundra_ascent/tundraascent/rules/Animal;I)V"⟩ : MethodName)) (a := a) (argsL := [(.ref b0), (.int x1)]) hown (hw _ (List.mem_of_getElem? (i := 26) rfl)) (hw _ (List.mem_of_getElem? (i := 27) rfl)) (notFace_of_selects (args := #[]) (mvT hZ (hw _ (List.mem_of_getElem? (i := 29) rfl)))) (hw _ (List.mem_of_getElem? (i := 29) rfl)) (hw _ (List.mem_of_getElem? (i := 28) rfl)) (hw _ (List.mem_of_getElem? (i := 19) rfl)) (hw _ (List.mem_of_getElem? (i := 30) rfl)) (by decide) 0 e34 E_a (rm3 l Z a0 hw a b0 x1 .null rfl (0 : Int32) (0 : Int32) h33 n0 Zs E_a F_a_highest F_a_highestCount F_a_tied g_a) (by decide) (by decide) (by decide) (by decide) (g := (mkF m 148 #[.val (.int x1), .val (.int x2), .val (.int x3), .val (.int x4), .val (.ref al), .val (.int (2 : Int32)), .val (.int r), .val (.ref b0), .val (.ref b1), .val (.ref b2), .val (.int (1 : Int32)), .val (.int (1 : Int32)), .val (.int (0 : Int32)), .val (.ref a), .unset, .unset] [(.int x1), (.ref b0), (.ref a)])) rfl (by rw [hml]; rfl) (rest := []) (lenOf pd6 rfl) rfl (by show 2 * 0 + _ ≤ _; exact Nat.le_of_eq rfl) (hb hby at_148) ?_
    intro T35 v35 L35 X35 q35
    obtain ⟨rfl, Nq35, K35, f35_0, f35_1, f35_2, f35_3⟩ := q35
    have N35 := Fr.app N34 Nq35
    have Zs := Nat.le_trans Zs K35.1
    have Kp := Kp.trans K35 (allS (P := fun x => x ∈ [] ∨ h0.size ≤ x) (Or.inr sz_a) all0)
    have Od := Od.keep K35 (allS (P := fun x => n0 ≤ x) g_a all0)
    have E_al := E_al.keep K35
    have A_al := A_al.keep K35 (ninS ne_al_a nin0)
    have E_b0 := E_b0.keep K35
    have E_b1 := E_b1.keep K35
    have E_b2 := E_b2.keep K35
    have E_a := E_a.keep K35
    have F_a_highest := f35_1
    have F_a_highestCount := f35_2
    have F_a_tied := f35_3
    show Go _ _ _ _ _ _ _ (T35.setTop (mkF m 151 #[.val (.int x1), .val (.int x2), .val (.int x3), .val (.int x4), .val (.ref al), .val (.int (2 : Int32)), .val (.int r), .val (.ref b0), .val (.ref b1), .val (.ref b2), .val (.int (1 : Int32)), .val (.int (1 : Int32)), .val (.int (0 : Int32)), .val (.ref a), .unset, .unset] []))
    refine Go.of (fun _ q => XS.iload X35.here hx rfl (hb hby at_151) rfl q) ?_
    show Go _ _ _ _ _ _ _ (T35.setTop (mkF m 153 #[.val (.int x1), .val (.int x2), .val (.int x3), .val (.int x4), .val (.ref al), .val (.int (2 : Int32)), .val (.int r), .val (.ref b0), .val (.ref b1), .val (.ref b2), .val (.int (1 : Int32)), .val (.int (1 : Int32)), .val (.int (0 : Int32)), .val (.ref a), .unset, .unset] [(.int (1 : Int32))]))
    refine Go.of (fun _ q => XS.ifNo X35.here hx rfl (hb hby at_153) rfl ((if0 _ _).trans (feq (by decide)).1) q) ?_
    show Go _ _ _ _ _ _ _ (T35.setTop (mkF m 156 #[.val (.int x1), .val (.int x2), .val (.int x3), .val (.int x4), .val (.ref al), .val (.int (2 : Int32)), .val (.int r), .val (.ref b0), .val (.ref b1), .val (.ref b2), .val (.int (1 : Int32)), .val (.int (1 : Int32)), .val (.int (0 : Int32)), .val (.ref a), .unset, .unset] []))
    refine Go.of (fun _ q => XS.aload X35.here hx rfl (hb hby at_156) rfl rfl q) ?_
    show Go _ _ _ _ _ _ _ (T35.setTop (mkF m 158 #[.val (.int x1), .val (.int x2), .val (.int x3), .val (.int x4), .val (.ref al), .val (.int (2 : Int32)), .val (.int r), .val (.ref b0), .val (.ref b1), .val (.ref b2), .val (.int (1 : Int32)), .val (.int (1 : Int32)), .val (.int (0 : Int32)), .val (.ref a), .unset, .unset] [(.ref a)]))
    refine Go.of (fun _ q => XS.aload X35.here hx rfl (hb hby at_158) rfl rfl q) ?_
    show Go _ _ _ _ _ _ _ (T35.setTop (mkF m 160 #[.val (.int x1), .val (.int x2), .val (.int x3), .val (.int x4), .val (.ref al), .val (.int (2 : Int32)), .val (.int r), .val (.ref b0), .val (.ref b1), .val (.ref b2), .val (.int (1 : Int32)), .val (.int (1 : Int32)), .val (.int (0 : Int32)), .val (.ref a), .unset, .unset] [(.ref b1), (.ref a)]))
    refine Go.of (fun _ q => XS.iloadN X35.here hx rfl (hb hby at_160) rfl q) ?_
    show Go _ _ _ _ _ _ _ (T35.setTop (mkF m 161 #[.val (.int x1), .val (.int x2), .val (.int x3), .val (.int x4), .val (.ref al), .val (.int (2 : Int32)), .val (.int r), .val (.ref b0), .val (.ref b1), .val (.ref b2), .val (.int (1 : Int32)), .val (.int (1 : Int32)), .val (.int (0 : Int32)), .val (.ref a), .unset, .unset] [(.int x2), (.ref b1), (.ref a)]))
    refine Go.virtual X35 hx hZ (y := (⟨"com/example/tundra_ascent/tundraascent/rules/StrictlyMost", "count", "(Lcom/example/tundra_ascent/tundraascent/rules/Animal;I)V"⟩ : MethodName)) (z := (⟨"com/example/tundra_ascent/tundraascent/rules/StrictlyMost", "count", "(Lcom/example/tundra_ascent/tundraascent/rules/Animal;I)V"⟩ : MethodName)) (a := a) (argsL := [(.ref b1), (.int x2)]) hown (hw _ (List.mem_of_getElem? (i := 26) rfl)) (hw _ (List.mem_of_getElem? (i := 27) rfl)) (notFace_of_selects (args := #[]) (mvT hZ (hw _ (List.mem_of_getElem? (i := 29) rfl)))) (hw _ (List.mem_of_getElem? (i := 29) rfl)) (hw _ (List.mem_of_getElem? (i := 28) rfl)) (hw _ (List.mem_of_getElem? (i := 19) rfl)) (hw _ (List.mem_of_getElem? (i := 30) rfl)) (by decide) 0 rfl E_a (rm3 l Z a0 hw a b1 x2 (own_stH x1 (0 : Int32) (.ref b0) .null) (own_stHr rfl rfl) (own_stC x1 (0 : Int32)) (own_stT x1 (0 : Int32) (0 : Int32)) T35.heap n0 Zs E_a F_a_highest F_a_highestCount F_a_tied g_a) (by decide) (by decide) (by decide) (by decide) (g := (mkF m 161 #[.val (.int x1), .val (.int x2), .val (.int x3), .val (.int x4), .val (.ref al), .val (.int (2 : Int32)), .val (.int r), .val (.ref b0), .val (.ref b1), .val (.ref b2), .val (.int (1 : Int32)), .val (.int (1 : Int32)), .val (.int (0 : Int32)), .val (.ref a), .unset, .unset] [(.int x2), (.ref b1), (.ref a)])) rfl (by rw [hml]; rfl) (rest := []) (lenOf pd6 rfl) rfl (by show 2 * 0 + _ ≤ _; exact Nat.le_of_eq rfl) (hb hby at_161) ?_
    intro T36 v36 L36 X36 q36
    obtain ⟨rfl, Nq36, K36, f36_0, f36_1, f36_2, f36_3⟩ := q36
    have N36 := Fr.app N35 Nq36
    have Zs := Nat.le_trans Zs K36.1
    have Kp := Kp.trans K36 (allS (P := fun x => x ∈ [] ∨ h0.size ≤ x) (Or.inr sz_a) all0)
    have Od := Od.keep K36 (allS (P := fun x => n0 ≤ x) g_a all0)
    have E_al := E_al.keep K36
    have A_al := A_al.keep K36 (ninS ne_al_a nin0)
    have E_b0 := E_b0.keep K36
    have E_b1 := E_b1.keep K36
    have E_b2 := E_b2.keep K36
    have E_a := E_a.keep K36
    have F_a_highest := f36_1
    have F_a_highestCount := f36_2
    have F_a_tied := f36_3
    show Go _ _ _ _ _ _ _ (T36.setTop (mkF m 164 #[.val (.int x1), .val (.int x2), .val (.int x3), .val (.int x4), .val (.ref al), .val (.int (2 : Int32)), .val (.int r), .val (.ref b0), .val (.ref b1), .val (.ref b2), .val (.int (1 : Int32)), .val (.int (1 : Int32)), .val (.int (0 : Int32)), .val (.ref a), .unset, .unset] []))
    refine Go.of (fun _ q => XS.iload X36.here hx rfl (hb hby at_164) rfl q) ?_
    show Go _ _ _ _ _ _ _ (T36.setTop (mkF m 166 #[.val (.int x1), .val (.int x2), .val (.int x3), .val (.int x4), .val (.ref al), .val (.int (2 : Int32)), .val (.int r), .val (.ref b0), .val (.ref b1), .val (.ref b2), .val (.int (1 : Int32)), .val (.int (1 : Int32)), .val (.int (0 : Int32)), .val (.ref a), .unset, .unset] [(.int (0 : Int32))]))
    refine Go.of (fun _ q => XS.ifYes X36.here hx rfl (pc0 := 166) (pc' := 177) rfl (hb hby at_166) rfl ((if0 _ _).trans (teq rfl).1) (by decide) (by decide) q) ?_
    show Go _ _ _ _ _ _ _ (T36.setTop (mkF m 177 #[.val (.int x1), .val (.int x2), .val (.int x3), .val (.int x4), .val (.ref al), .val (.int (2 : Int32)), .val (.int r), .val (.ref b0), .val (.ref b1), .val (.ref b2), .val (.int (1 : Int32)), .val (.int (1 : Int32)), .val (.int (0 : Int32)), .val (.ref a), .unset, .unset] []))
    refine Go.of (fun _ q => XS.aload X36.here hx rfl (hb hby at_177) rfl rfl q) ?_
    show Go _ _ _ _ _ _ _ (T36.setTop (mkF m 179 #[.val (.int x1), .val (.int x2), .val (.int x3), .val (.int x4), .val (.ref al), .val (.int (2 : Int32)), .val (.int r), .val (.ref b0), .val (.ref b1), .val (.ref b2), .val (.int (1 : Int32)), .val (.int (1 : Int32)), .val (.int (0 : Int32)), .val (.ref a), .unset, .unset] [(.ref a)]))
    refine Go.virtual X36 hx hZ (y := (⟨"com/example/tundra_ascent/tundraascent/rules/StrictlyMost", "animal", "()Ljava/util/Optional;"⟩ : MethodName)) (z := (⟨"com/example/tundra_ascent/tundraascent/rules/StrictlyMost", "animal", "()Ljava/util/Optional;"⟩ : MethodName)) (a := a) (argsL := []) hown (hw _ (List.mem_of_getElem? (i := 35) rfl)) (hw _ (List.mem_of_getElem? (i := 36) rfl)) (notFace_of_selects (args := #[]) (mvT hZ (hw _ (List.mem_of_getElem? (i := 38) rfl)))) (hw _ (List.mem_of_getElem? (i := 38) rfl)) (hw _ (List.mem_of_getElem? (i := 37) rfl)) (hw _ (List.mem_of_getElem? (i := 19) rfl)) (hw _ (List.mem_of_getElem? (i := 39) rfl)) (by decide) 0 rfl E_a (rm4 l Z a0 hw a (own_stH x2 (own_stC x1 (0 : Int32)) (.ref b1) (own_stH x1 (0 : Int32) (.ref b0) .null)) (own_stHr rfl (own_stHr rfl rfl)) (own_stT x2 (own_stC x1 (0 : Int32)) (own_stT x1 (0 : Int32) (0 : Int32))) em T36.heap n0 Zs Od F_a_highest F_a_tied Sem Eem Fem) (by decide) (by decide) (by decide) (by decide) (g := (mkF m 179 #[.val (.int x1), .val (.int x2), .val (.int x3), .val (.int x4), .val (.ref al), .val (.int (2 : Int32)), .val (.int r), .val (.ref b0), .val (.ref b1), .val (.ref b2), .val (.int (1 : Int32)), .val (.int (1 : Int32)), .val (.int (0 : Int32)), .val (.ref a), .unset, .unset] [(.ref a)])) rfl (by rw [hml]; rfl) (rest := []) (lenOf pd2 rfl) rfl (by show 2 * 0 + _ ≤ _; exact Nat.le_of_eq rfl) (hb hby at_179) ?_
    intro T37 v37 L37 X37 q37
    obtain ⟨ob1, rfl, Nq37, K37, f37_0, f37_1⟩ := q37
    have N37 := Fr.app N36 Nq37
    have Zs := Nat.le_trans Zs K37.1
    have Kp := Kp.trans K37 all0
    have Od := Od.keep K37 all0
    have E_al := E_al.keep K37
    have A_al := A_al.keep K37 nin0
    have E_b0 := E_b0.keep K37
    have E_b1 := E_b1.keep K37
    have E_b2 := E_b2.keep K37
    have E_a := E_a.keep K37
    have F_a_highest := F_a_highest.keep K37 nin0
    have F_a_highestCount := F_a_highestCount.keep K37 nin0
    have F_a_tied := F_a_tied.keep K37 nin0
    have E_ob1 := f37_0
    have F_ob1_value := f37_1
    show Go _ _ _ _ _ _ _ (T37.setTop (mkF m 182 #[.val (.int x1), .val (.int x2), .val (.int x3), .val (.int x4), .val (.ref al), .val (.int (2 : Int32)), .val (.int r), .val (.ref b0), .val (.ref b1), .val (.ref b2), .val (.int (1 : Int32)), .val (.int (1 : Int32)), .val (.int (0 : Int32)), .val (.ref a), .unset, .unset] [(.ref ob1)]))
    refine Go.of (fun _ q => XS.aconstNull X37.here hx rfl (hb hby at_182) q) ?_
    show Go _ _ _ _ _ _ _ (T37.setTop (mkF m 183 #[.val (.int x1), .val (.int x2), .val (.int x3), .val (.int x4), .val (.ref al), .val (.int (2 : Int32)), .val (.int r), .val (.ref b0), .val (.ref b1), .val (.ref b2), .val (.int (1 : Int32)), .val (.int (1 : Int32)), .val (.int (0 : Int32)), .val (.ref a), .unset, .unset] [.null, (.ref ob1)]))
    refine Go.virtual X37 hx hZ (y := (⟨"java/util/Optional", "orElse", "(Ljava/lang/Object;)Ljava/lang/Object;"⟩ : MethodName)) (z := (⟨"java/util/Optional", "orElse", "(Ljava/lang/Object;)Ljava/lang/Object;"⟩ : MethodName)) (a := ob1) (argsL := [.null]) hown (hw _ (List.mem_of_getElem? (i := 45) rfl)) (hw _ (List.mem_of_getElem? (i := 46) rfl)) (notFace_of_selects (args := #[]) (mvT hZ (hw _ (List.mem_of_getElem? (i := 48) rfl)))) (hw _ (List.mem_of_getElem? (i := 48) rfl)) (hw _ (List.mem_of_getElem? (i := 47) rfl)) (hw _ (List.mem_of_getElem? (i := 42) rfl)) (hw _ (List.mem_of_getElem? (i := 49) rfl)) (by decide) 0 rfl E_ob1 (rm6 l Z a0 hw ob1 (if (own_stT x2 (own_stC x1 (0 : Int32)) (own_stT x1 (0 : Int32) (0 : Int32))) = (0 : Int32) then (own_stH x2 (own_stC x1 (0 : Int32)) (.ref b1) (own_stH x1 (0 : Int32) (.ref b0) .null)) else Value.null) (own_iteR (own_stHr rfl (own_stHr rfl rfl))) T37.heap n0 Zs F_ob1_value) (by decide) (by decide) (by decide) (by decide) (g := (mkF m 183 #[.val (.int x1), .val (.int x2), .val (.int x3), .val (.int x4), .val (.ref al), .val (.int (2 : Int32)), .val (.int r), .val (.ref b0), .val (.ref b1), .val (.ref b2), .val (.int (1 : Int32)), .val (.int (1 : Int32)), .val (.int (0 : Int32)), .val (.ref a), .unset, .unset] [.null, (.ref ob1)])) rfl (by rw [hml]; rfl) (rest := []) (lenOf pd4 rfl) rfl (by show 2 * 0 + _ ≤ _; exact Nat.le_of_eq rfl) (hb hby at_183) ?_
    intro T38 v38 L38 X38 q38
    obtain ⟨rfl, Nq38, e38⟩ := q38
    have N38 := Fr.app N37 Nq38
    obtain ⟨got, hgot⟩ : ∃ z : Value, z = (if (own_stT x2 (own_stC x1 (0 : Int32)) (own_stT x1 (0 : Int32) (0 : Int32))) = (0 : Int32) then (own_stH x2 (own_stC x1 (0 : Int32)) (.ref b1) (own_stH x1 (0 : Int32) (.ref b0) .null)) else Value.null) := ⟨_, rfl⟩
    rw [← hgot]
    have rgot : got.isRef = true := by rw [hgot]; exact (own_iteR (own_stHr rfl (own_stHr rfl rfl)))
    show Go _ _ _ _ _ _ _ (T38.setTop (mkF m 186 #[.val (.int x1), .val (.int x2), .val (.int x3), .val (.int x4), .val (.ref al), .val (.int (2 : Int32)), .val (.int r), .val (.ref b0), .val (.ref b1), .val (.ref b2), .val (.int (1 : Int32)), .val (.int (1 : Int32)), .val (.int (0 : Int32)), .val (.ref a), .unset, .unset] [got]))
    obtain ⟨T39, X39, e39, st39⟩ := castV X38 hx hZ hown (hw _ (List.mem_of_getElem? (i := 0) rfl)) e38 (by rw [hgot]; exact own_iteP (own_stHP (Or.inr ⟨_, rfl, Ins.self E_b1⟩) (own_stHP (Or.inr ⟨_, rfl, Ins.self E_b0⟩) (Or.inl rfl)))) (g := (mkF m 186 #[.val (.int x1), .val (.int x2), .val (.int x3), .val (.int x4), .val (.ref al), .val (.int (2 : Int32)), .val (.int r), .val (.ref b0), .val (.ref b1), .val (.ref b2), .val (.int (1 : Int32)), .val (.int (1 : Int32)), .val (.int (0 : Int32)), .val (.ref a), .unset, .unset] [got])) rfl rfl (hb hby at_186)
    refine Go.of st39 ?_
    show Go _ _ _ _ _ _ _ (T39.setTop (mkF m 189 #[.val (.int x1), .val (.int x2), .val (.int x3), .val (.int x4), .val (.ref al), .val (.int (2 : Int32)), .val (.int r), .val (.ref b0), .val (.ref b1), .val (.ref b2), .val (.int (1 : Int32)), .val (.int (1 : Int32)), .val (.int (0 : Int32)), .val (.ref a), .unset, .unset] [got]))
    refine Go.of (fun _ q => XS.astore X39.here hx rfl (hb hby at_189) rfl rgot (l' := #[.val (.int x1), .val (.int x2), .val (.int x3), .val (.int x4), .val (.ref al), .val (.int (2 : Int32)), .val (.int r), .val (.ref b0), .val (.ref b1), .val (.ref b2), .val (.int (1 : Int32)), .val (.int (1 : Int32)), .val (.int (0 : Int32)), .val (.ref a), .val got, .unset]) (by first | rfl | (cases got <;> first | rfl | (simp [Value.isRef] at rgot; done))) q) ?_
    show Go _ _ _ _ _ _ _ (T39.setTop (mkF m 191 #[.val (.int x1), .val (.int x2), .val (.int x3), .val (.int x4), .val (.ref al), .val (.int (2 : Int32)), .val (.int r), .val (.ref b0), .val (.ref b1), .val (.ref b2), .val (.int (1 : Int32)), .val (.int (1 : Int32)), .val (.int (0 : Int32)), .val (.ref a), .val got, .unset] []))
    refine Go.of (fun _ q => XS.aconstNull X39.here hx rfl (hb hby at_191) q) ?_
    show Go _ _ _ _ _ _ _ (T39.setTop (mkF m 192 #[.val (.int x1), .val (.int x2), .val (.int x3), .val (.int x4), .val (.ref al), .val (.int (2 : Int32)), .val (.int r), .val (.ref b0), .val (.ref b1), .val (.ref b2), .val (.int (1 : Int32)), .val (.int (1 : Int32)), .val (.int (0 : Int32)), .val (.ref a), .val got, .unset] [.null]))
    refine Go.of (fun _ q => XS.astore X39.here hx rfl (hb hby at_192) rfl rfl (l' := #[.val (.int x1), .val (.int x2), .val (.int x3), .val (.int x4), .val (.ref al), .val (.int (2 : Int32)), .val (.int r), .val (.ref b0), .val (.ref b1), .val (.ref b2), .val (.int (1 : Int32)), .val (.int (1 : Int32)), .val (.int (0 : Int32)), .val (.ref a), .val got, .val .null]) rfl q) ?_
    show Go _ _ _ _ _ _ _ (T39.setTop (mkF m 194 #[.val (.int x1), .val (.int x2), .val (.int x3), .val (.int x4), .val (.ref al), .val (.int (2 : Int32)), .val (.int r), .val (.ref b0), .val (.ref b1), .val (.ref b2), .val (.int (1 : Int32)), .val (.int (1 : Int32)), .val (.int (0 : Int32)), .val (.ref a), .val got, .val .null] []))
    refine Go.of (fun _ q => XS.iload X39.here hx rfl (hb hby at_194) rfl q) ?_
    show Go _ _ _ _ _ _ _ (T39.setTop (mkF m 196 #[.val (.int x1), .val (.int x2), .val (.int x3), .val (.int x4), .val (.ref al), .val (.int (2 : Int32)), .val (.int r), .val (.ref b0), .val (.ref b1), .val (.ref b2), .val (.int (1 : Int32)), .val (.int (1 : Int32)), .val (.int (0 : Int32)), .val (.ref a), .val got, .val .null] [(.int (1 : Int32))]))
    refine Go.of (fun _ q => XS.iloadN X39.here hx rfl (hb hby at_196) rfl q) ?_
    show Go _ _ _ _ _ _ _ (T39.setTop (mkF m 197 #[.val (.int x1), .val (.int x2), .val (.int x3), .val (.int x4), .val (.ref al), .val (.int (2 : Int32)), .val (.int r), .val (.ref b0), .val (.ref b1), .val (.ref b2), .val (.int (1 : Int32)), .val (.int (1 : Int32)), .val (.int (0 : Int32)), .val (.ref a), .val got, .val .null] [(.int x1), (.int (1 : Int32))]))
    refine Go.of (fun _ q => XS.iload X39.here hx rfl (hb hby at_197) rfl q) ?_
    show Go _ _ _ _ _ _ _ (T39.setTop (mkF m 199 #[.val (.int x1), .val (.int x2), .val (.int x3), .val (.int x4), .val (.ref al), .val (.int (2 : Int32)), .val (.int r), .val (.ref b0), .val (.ref b1), .val (.ref b2), .val (.int (1 : Int32)), .val (.int (1 : Int32)), .val (.int (0 : Int32)), .val (.ref a), .val got, .val .null] [(.int (1 : Int32)), (.int x1), (.int (1 : Int32))]))
    refine Go.of (fun _ q => XS.iloadN X39.here hx rfl (hb hby at_199) rfl q) ?_
    show Go _ _ _ _ _ _ _ (T39.setTop (mkF m 200 #[.val (.int x1), .val (.int x2), .val (.int x3), .val (.int x4), .val (.ref al), .val (.int (2 : Int32)), .val (.int r), .val (.ref b0), .val (.ref b1), .val (.ref b2), .val (.int (1 : Int32)), .val (.int (1 : Int32)), .val (.int (0 : Int32)), .val (.ref a), .val got, .val .null] [(.int x2), (.int (1 : Int32)), (.int x1), (.int (1 : Int32))]))
    refine Go.of (fun _ q => XS.iload X39.here hx rfl (hb hby at_200) rfl q) ?_
    show Go _ _ _ _ _ _ _ (T39.setTop (mkF m 202 #[.val (.int x1), .val (.int x2), .val (.int x3), .val (.int x4), .val (.ref al), .val (.int (2 : Int32)), .val (.int r), .val (.ref b0), .val (.ref b1), .val (.ref b2), .val (.int (1 : Int32)), .val (.int (1 : Int32)), .val (.int (0 : Int32)), .val (.ref a), .val got, .val .null] [(.int (0 : Int32)), (.int x2), (.int (1 : Int32)), (.int x1), (.int (1 : Int32))]))
    refine Go.of (fun _ q => XS.iloadN X39.here hx rfl (hb hby at_202) rfl q) ?_
    show Go _ _ _ _ _ _ _ (T39.setTop (mkF m 203 #[.val (.int x1), .val (.int x2), .val (.int x3), .val (.int x4), .val (.ref al), .val (.int (2 : Int32)), .val (.int r), .val (.ref b0), .val (.ref b1), .val (.ref b2), .val (.int (1 : Int32)), .val (.int (1 : Int32)), .val (.int (0 : Int32)), .val (.ref a), .val got, .val .null] [(.int x3), (.int (0 : Int32)), (.int x2), (.int (1 : Int32)), (.int x1), (.int (1 : Int32))]))
    refine Go.static X39 hx hZ (y := (⟨"com/example/tundra_ascent/tundraascent/rules/StrictlyMostCountPinLaw", "wins", "(ZIZIZI)Z"⟩ : MethodName)) (argsL := [(.int (1 : Int32)), (.int x1), (.int (1 : Int32)), (.int x2), (.int (0 : Int32)), (.int x3)]) hown (hw _ (List.mem_of_getElem? (i := 52) rfl)) (hw _ (List.mem_of_getElem? (i := 53) rfl)) (hw _ (List.mem_of_getElem? (i := 54) rfl)) (hw _ (List.mem_of_getElem? (i := 55) rfl)) (by decide) 0 e39 (rm7 l Z a0 hw (1 : Int32) x1 (1 : Int32) x2 (0 : Int32) x3 T37.heap n0 Zs ) (by decide) (by decide) (by decide) (by decide) (g := (mkF m 203 #[.val (.int x1), .val (.int x2), .val (.int x3), .val (.int x4), .val (.ref al), .val (.int (2 : Int32)), .val (.int r), .val (.ref b0), .val (.ref b1), .val (.ref b2), .val (.int (1 : Int32)), .val (.int (1 : Int32)), .val (.int (0 : Int32)), .val (.ref a), .val got, .val .null] [(.int x3), (.int (0 : Int32)), (.int x2), (.int (1 : Int32)), (.int x1), (.int (1 : Int32))])) rfl (by rw [hml]; rfl) (rest := []) (lenOf pd5 rfl) rfl (by show 2 * 0 + _ ≤ _; exact Nat.le_of_eq rfl) (hb hby at_203) ?_
    intro T40 v40 L40 X40 q40
    obtain ⟨rfl, Nq40, e40⟩ := q40
    have N40 := Fr.app N38 Nq40
    show Go _ _ _ _ _ _ _ (T40.setTop (mkF m 206 #[.val (.int x1), .val (.int x2), .val (.int x3), .val (.int x4), .val (.ref al), .val (.int (2 : Int32)), .val (.int r), .val (.ref b0), .val (.ref b1), .val (.ref b2), .val (.int (1 : Int32)), .val (.int (1 : Int32)), .val (.int (0 : Int32)), .val (.ref a), .val got, .val .null] [(.int (own_w (1 : Int32) x1 (1 : Int32) x2 (0 : Int32) x3))]))
    have J43 : ∀ (TJ43 : State) (lJ43 : List Loc) (zJ43_0 : Value), Stand p l e room_1 s m #[(.int x1), (.int x2), (.int x3), (.int x4)] below meth c TJ43 lJ43 3 10 → TJ43.heap = T37.heap → Fr n0 lJ43 → zJ43_0 = ((if (own_w (1 : Int32) x1 (1 : Int32) x2 (0 : Int32) x3) = (0 : Int32) then (if (own_w (1 : Int32) x2 (1 : Int32) x1 (0 : Int32) x3) = (0 : Int32) then (if (own_w (0 : Int32) x3 (1 : Int32) x1 (1 : Int32) x2) = (0 : Int32) then .null else (.ref b2)) else (.ref b1)) else (.ref b0)) : Value) → zJ43_0.isRef = true → Go p e below s room_1.cells room_1.slots (Q0 Z x1 x2 x3 x4 o0 o1 o2 o3 o4 o5 em h0 n0) (TJ43.setTop (mkF m 257 #[.val (.int x1), .val (.int x2), .val (.int x3), .val (.int x4), .val (.ref al), .val (.int (2 : Int32)), .val (.int r), .val (.ref b0), .val (.ref b1), .val (.ref b2), .val (.int (1 : Int32)), .val (.int (1 : Int32)), .val (.int (0 : Int32)), .val (.ref a), .val got, .val zJ43_0] [])) := by
      intro TJ43 lJ43 zJ43_0 XJ43 eJ43 NJ43 hzJ43_0 rzJ43_0
      show Go _ _ _ _ _ _ _ (TJ43.setTop (mkF m 257 #[.val (.int x1), .val (.int x2), .val (.int x3), .val (.int x4), .val (.ref al), .val (.int (2 : Int32)), .val (.int r), .val (.ref b0), .val (.ref b1), .val (.ref b2), .val (.int (1 : Int32)), .val (.int (1 : Int32)), .val (.int (0 : Int32)), .val (.ref a), .val got, .val zJ43_0] []))
      refine Go.of (fun _ q => XS.aload XJ43.here hx rfl (hb hby at_257) rfl rgot q) ?_
      show Go _ _ _ _ _ _ _ (TJ43.setTop (mkF m 259 #[.val (.int x1), .val (.int x2), .val (.int x3), .val (.int x4), .val (.ref al), .val (.int (2 : Int32)), .val (.int r), .val (.ref b0), .val (.ref b1), .val (.ref b2), .val (.int (1 : Int32)), .val (.int (1 : Int32)), .val (.int (0 : Int32)), .val (.ref a), .val got, .val zJ43_0] [got]))
      refine Go.of (fun _ q => XS.aload XJ43.here hx rfl (hb hby at_259) rfl rzJ43_0 q) ?_
      show Go _ _ _ _ _ _ _ (TJ43.setTop (mkF m 261 #[.val (.int x1), .val (.int x2), .val (.int x3), .val (.int x4), .val (.ref al), .val (.int (2 : Int32)), .val (.int r), .val (.ref b0), .val (.ref b1), .val (.ref b2), .val (.int (1 : Int32)), .val (.int (1 : Int32)), .val (.int (0 : Int32)), .val (.ref a), .val got, .val zJ43_0] [zJ43_0, got]))
      refine Go.of (fun _ q => Jvm.RoadKit.acmp (g := (mkF m 261 #[.val (.int x1), .val (.int x2), .val (.int x3), .val (.int x4), .val (.ref al), .val (.int (2 : Int32)), .val (.int r), .val (.ref b0), .val (.ref b1), .val (.ref b2), .val (.int (1 : Int32)), .val (.int (1 : Int32)), .val (.int (0 : Int32)), .val (.ref a), .val got, .val zJ43_0] [zJ43_0, got])) XJ43 hx rfl rgot rzJ43_0 (pc0 := 261) (pc' := 264) (same := true) rfl (hb hby at_261) rfl (decide_eq_true (by rw [hgot, hzJ43_0]; exact own_p2 x1 x2 x3 b0 b1 b2)) (by decide) (by decide) q) ?_
      show Go _ _ _ _ _ _ _ (TJ43.setTop (mkF m 264 #[.val (.int x1), .val (.int x2), .val (.int x3), .val (.int x4), .val (.ref al), .val (.int (2 : Int32)), .val (.int r), .val (.ref b0), .val (.ref b1), .val (.ref b2), .val (.int (1 : Int32)), .val (.int (1 : Int32)), .val (.int (0 : Int32)), .val (.ref a), .val got, .val zJ43_0] []))
      refine Go.of (fun _ q => XS.iconst XJ43.here hx rfl (hb hby at_264) q) ?_
      show Go _ _ _ _ _ _ _ (TJ43.setTop (mkF m 265 #[.val (.int x1), .val (.int x2), .val (.int x3), .val (.int x4), .val (.ref al), .val (.int (2 : Int32)), .val (.int r), .val (.ref b0), .val (.ref b1), .val (.ref b2), .val (.int (1 : Int32)), .val (.int (1 : Int32)), .val (.int (0 : Int32)), .val (.ref a), .val got, .val zJ43_0] [(.int (1 : Int32))]))
      refine Go.of (fun _ q => XS.goto XJ43.here hx rfl (pc0 := 265) (pc' := 269) rfl (hb hby at_265) (by decide) (by decide) q) ?_
      show Go _ _ _ _ _ _ _ (TJ43.setTop (mkF m 269 #[.val (.int x1), .val (.int x2), .val (.int x3), .val (.int x4), .val (.ref al), .val (.int (2 : Int32)), .val (.int r), .val (.ref b0), .val (.ref b1), .val (.ref b2), .val (.int (1 : Int32)), .val (.int (1 : Int32)), .val (.int (0 : Int32)), .val (.ref a), .val got, .val zJ43_0] [(.int (1 : Int32))]))
      refine Go.retN XJ43 hx hlk (t := .boolean) hret (by simp) (hb hby at_269) rfl (by decide) (by decide) ?_
      rw [eJ43]
      exact ⟨rfl, NJ43⟩
    by_cases c206 : (own_w (1 : Int32) x1 (1 : Int32) x2 (0 : Int32) x3) = (0 : Int32)
    · refine Go.of (fun _ q => XS.ifYes X40.here hx rfl (pc0 := 206) (pc' := 216) rfl (hb hby at_206) rfl ((if0 _ _).trans (teq c206).1) (by decide) (by decide) q) ?_
      show Go _ _ _ _ _ _ _ (T40.setTop (mkF m 216 #[.val (.int x1), .val (.int x2), .val (.int x3), .val (.int x4), .val (.ref al), .val (.int (2 : Int32)), .val (.int r), .val (.ref b0), .val (.ref b1), .val (.ref b2), .val (.int (1 : Int32)), .val (.int (1 : Int32)), .val (.int (0 : Int32)), .val (.ref a), .val got, .val .null] []))
      refine Go.of (fun _ q => XS.iload X40.here hx rfl (hb hby at_216) rfl q) ?_
      show Go _ _ _ _ _ _ _ (T40.setTop (mkF m 218 #[.val (.int x1), .val (.int x2), .val (.int x3), .val (.int x4), .val (.ref al), .val (.int (2 : Int32)), .val (.int r), .val (.ref b0), .val (.ref b1), .val (.ref b2), .val (.int (1 : Int32)), .val (.int (1 : Int32)), .val (.int (0 : Int32)), .val (.ref a), .val got, .val .null] [(.int (1 : Int32))]))
      refine Go.of (fun _ q => XS.iloadN X40.here hx rfl (hb hby at_218) rfl q) ?_
      show Go _ _ _ _ _ _ _ (T40.setTop (mkF m 219 #[.val (.int x1), .val (.int x2), .val (.int x3), .val (.int x4), .val (.ref al), .val (.int (2 : Int32)), .val (.int r), .val (.ref b0), .val (.ref b1), .val (.ref b2), .val (.int (1 : Int32)), .val (.int (1 : Int32)), .val (.int (0 : Int32)), .val (.ref a), .val got, .val .null] [(.int x2), (.int (1 : Int32))]))
      refine Go.of (fun _ q => XS.iload X40.here hx rfl (hb hby at_219) rfl q) ?_
      show Go _ _ _ _ _ _ _ (T40.setTop (mkF m 221 #[.val (.int x1), .val (.int x2), .val (.int x3), .val (.int x4), .val (.ref al), .val (.int (2 : Int32)), .val (.int r), .val (.ref b0), .val (.ref b1), .val (.ref b2), .val (.int (1 : Int32)), .val (.int (1 : Int32)), .val (.int (0 : Int32)), .val (.ref a), .val got, .val .null] [(.int (1 : Int32)), (.int x2), (.int (1 : Int32))]))
      refine Go.of (fun _ q => XS.iloadN X40.here hx rfl (hb hby at_221) rfl q) ?_
      show Go _ _ _ _ _ _ _ (T40.setTop (mkF m 222 #[.val (.int x1), .val (.int x2), .val (.int x3), .val (.int x4), .val (.ref al), .val (.int (2 : Int32)), .val (.int r), .val (.ref b0), .val (.ref b1), .val (.ref b2), .val (.int (1 : Int32)), .val (.int (1 : Int32)), .val (.int (0 : Int32)), .val (.ref a), .val got, .val .null] [(.int x1), (.int (1 : Int32)), (.int x2), (.int (1 : Int32))]))
      refine Go.of (fun _ q => XS.iload X40.here hx rfl (hb hby at_222) rfl q) ?_
      show Go _ _ _ _ _ _ _ (T40.setTop (mkF m 224 #[.val (.int x1), .val (.int x2), .val (.int x3), .val (.int x4), .val (.ref al), .val (.int (2 : Int32)), .val (.int r), .val (.ref b0), .val (.ref b1), .val (.ref b2), .val (.int (1 : Int32)), .val (.int (1 : Int32)), .val (.int (0 : Int32)), .val (.ref a), .val got, .val .null] [(.int (0 : Int32)), (.int x1), (.int (1 : Int32)), (.int x2), (.int (1 : Int32))]))
      refine Go.of (fun _ q => XS.iloadN X40.here hx rfl (hb hby at_224) rfl q) ?_
      show Go _ _ _ _ _ _ _ (T40.setTop (mkF m 225 #[.val (.int x1), .val (.int x2), .val (.int x3), .val (.int x4), .val (.ref al), .val (.int (2 : Int32)), .val (.int r), .val (.ref b0), .val (.ref b1), .val (.ref b2), .val (.int (1 : Int32)), .val (.int (1 : Int32)), .val (.int (0 : Int32)), .val (.ref a), .val got, .val .null] [(.int x3), (.int (0 : Int32)), (.int x1), (.int (1 : Int32)), (.int x2), (.int (1 : Int32))]))
      refine Go.static X40 hx hZ (y := (⟨"com/example/tundra_ascent/tundraascent/rules/StrictlyMostCountPinLaw", "wins", "(ZIZIZI)Z"⟩ : MethodName)) (argsL := [(.int (1 : Int32)), (.int x2), (.int (1 : Int32)), (.int x1), (.int (0 : Int32)), (.int x3)]) hown (hw _ (List.mem_of_getElem? (i := 52) rfl)) (hw _ (List.mem_of_getElem? (i := 53) rfl)) (hw _ (List.mem_of_getElem? (i := 54) rfl)) (hw _ (List.mem_of_getElem? (i := 55) rfl)) (by decide) 0 e40 (rm7 l Z a0 hw (1 : Int32) x2 (1 : Int32) x1 (0 : Int32) x3 T37.heap n0 Zs ) (by decide) (by decide) (by decide) (by decide) (g := (mkF m 225 #[.val (.int x1), .val (.int x2), .val (.int x3), .val (.int x4), .val (.ref al), .val (.int (2 : Int32)), .val (.int r), .val (.ref b0), .val (.ref b1), .val (.ref b2), .val (.int (1 : Int32)), .val (.int (1 : Int32)), .val (.int (0 : Int32)), .val (.ref a), .val got, .val .null] [(.int x3), (.int (0 : Int32)), (.int x1), (.int (1 : Int32)), (.int x2), (.int (1 : Int32))])) rfl (by rw [hml]; rfl) (rest := []) (lenOf pd5 rfl) rfl (by show 2 * 0 + _ ≤ _; exact Nat.le_of_eq rfl) (hb hby at_225) ?_
      intro T41 v41 L41 X41 q41
      obtain ⟨rfl, Nq41, e41⟩ := q41
      have N41 := Fr.app N40 Nq41
      show Go _ _ _ _ _ _ _ (T41.setTop (mkF m 228 #[.val (.int x1), .val (.int x2), .val (.int x3), .val (.int x4), .val (.ref al), .val (.int (2 : Int32)), .val (.int r), .val (.ref b0), .val (.ref b1), .val (.ref b2), .val (.int (1 : Int32)), .val (.int (1 : Int32)), .val (.int (0 : Int32)), .val (.ref a), .val got, .val .null] [(.int (own_w (1 : Int32) x2 (1 : Int32) x1 (0 : Int32) x3))]))
      by_cases c228 : (own_w (1 : Int32) x2 (1 : Int32) x1 (0 : Int32) x3) = (0 : Int32)
      · refine Go.of (fun _ q => XS.ifYes X41.here hx rfl (pc0 := 228) (pc' := 238) rfl (hb hby at_228) rfl ((if0 _ _).trans (teq c228).1) (by decide) (by decide) q) ?_
        show Go _ _ _ _ _ _ _ (T41.setTop (mkF m 238 #[.val (.int x1), .val (.int x2), .val (.int x3), .val (.int x4), .val (.ref al), .val (.int (2 : Int32)), .val (.int r), .val (.ref b0), .val (.ref b1), .val (.ref b2), .val (.int (1 : Int32)), .val (.int (1 : Int32)), .val (.int (0 : Int32)), .val (.ref a), .val got, .val .null] []))
        refine Go.of (fun _ q => XS.iload X41.here hx rfl (hb hby at_238) rfl q) ?_
        show Go _ _ _ _ _ _ _ (T41.setTop (mkF m 240 #[.val (.int x1), .val (.int x2), .val (.int x3), .val (.int x4), .val (.ref al), .val (.int (2 : Int32)), .val (.int r), .val (.ref b0), .val (.ref b1), .val (.ref b2), .val (.int (1 : Int32)), .val (.int (1 : Int32)), .val (.int (0 : Int32)), .val (.ref a), .val got, .val .null] [(.int (0 : Int32))]))
        refine Go.of (fun _ q => XS.iloadN X41.here hx rfl (hb hby at_240) rfl q) ?_
        show Go _ _ _ _ _ _ _ (T41.setTop (mkF m 241 #[.val (.int x1), .val (.int x2), .val (.int x3), .val (.int x4), .val (.ref al), .val (.int (2 : Int32)), .val (.int r), .val (.ref b0), .val (.ref b1), .val (.ref b2), .val (.int (1 : Int32)), .val (.int (1 : Int32)), .val (.int (0 : Int32)), .val (.ref a), .val got, .val .null] [(.int x3), (.int (0 : Int32))]))
        refine Go.of (fun _ q => XS.iload X41.here hx rfl (hb hby at_241) rfl q) ?_
        show Go _ _ _ _ _ _ _ (T41.setTop (mkF m 243 #[.val (.int x1), .val (.int x2), .val (.int x3), .val (.int x4), .val (.ref al), .val (.int (2 : Int32)), .val (.int r), .val (.ref b0), .val (.ref b1), .val (.ref b2), .val (.int (1 : Int32)), .val (.int (1 : Int32)), .val (.int (0 : Int32)), .val (.ref a), .val got, .val .null] [(.int (1 : Int32)), (.int x3), (.int (0 : Int32))]))
        refine Go.of (fun _ q => XS.iloadN X41.here hx rfl (hb hby at_243) rfl q) ?_
        show Go _ _ _ _ _ _ _ (T41.setTop (mkF m 244 #[.val (.int x1), .val (.int x2), .val (.int x3), .val (.int x4), .val (.ref al), .val (.int (2 : Int32)), .val (.int r), .val (.ref b0), .val (.ref b1), .val (.ref b2), .val (.int (1 : Int32)), .val (.int (1 : Int32)), .val (.int (0 : Int32)), .val (.ref a), .val got, .val .null] [(.int x1), (.int (1 : Int32)), (.int x3), (.int (0 : Int32))]))
        refine Go.of (fun _ q => XS.iload X41.here hx rfl (hb hby at_244) rfl q) ?_
        show Go _ _ _ _ _ _ _ (T41.setTop (mkF m 246 #[.val (.int x1), .val (.int x2), .val (.int x3), .val (.int x4), .val (.ref al), .val (.int (2 : Int32)), .val (.int r), .val (.ref b0), .val (.ref b1), .val (.ref b2), .val (.int (1 : Int32)), .val (.int (1 : Int32)), .val (.int (0 : Int32)), .val (.ref a), .val got, .val .null] [(.int (1 : Int32)), (.int x1), (.int (1 : Int32)), (.int x3), (.int (0 : Int32))]))
        refine Go.of (fun _ q => XS.iloadN X41.here hx rfl (hb hby at_246) rfl q) ?_
        show Go _ _ _ _ _ _ _ (T41.setTop (mkF m 247 #[.val (.int x1), .val (.int x2), .val (.int x3), .val (.int x4), .val (.ref al), .val (.int (2 : Int32)), .val (.int r), .val (.ref b0), .val (.ref b1), .val (.ref b2), .val (.int (1 : Int32)), .val (.int (1 : Int32)), .val (.int (0 : Int32)), .val (.ref a), .val got, .val .null] [(.int x2), (.int (1 : Int32)), (.int x1), (.int (1 : Int32)), (.int x3), (.int (0 : Int32))]))
        refine Go.static X41 hx hZ (y := (⟨"com/example/tundra_ascent/tundraascent/rules/StrictlyMostCountPinLaw", "wins", "(ZIZIZI)Z"⟩ : MethodName)) (argsL := [(.int (0 : Int32)), (.int x3), (.int (1 : Int32)), (.int x1), (.int (1 : Int32)), (.int x2)]) hown (hw _ (List.mem_of_getElem? (i := 52) rfl)) (hw _ (List.mem_of_getElem? (i := 53) rfl)) (hw _ (List.mem_of_getElem? (i := 54) rfl)) (hw _ (List.mem_of_getElem? (i := 55) rfl)) (by decide) 0 e41 (rm7 l Z a0 hw (0 : Int32) x3 (1 : Int32) x1 (1 : Int32) x2 T37.heap n0 Zs ) (by decide) (by decide) (by decide) (by decide) (g := (mkF m 247 #[.val (.int x1), .val (.int x2), .val (.int x3), .val (.int x4), .val (.ref al), .val (.int (2 : Int32)), .val (.int r), .val (.ref b0), .val (.ref b1), .val (.ref b2), .val (.int (1 : Int32)), .val (.int (1 : Int32)), .val (.int (0 : Int32)), .val (.ref a), .val got, .val .null] [(.int x2), (.int (1 : Int32)), (.int x1), (.int (1 : Int32)), (.int x3), (.int (0 : Int32))])) rfl (by rw [hml]; rfl) (rest := []) (lenOf pd5 rfl) rfl (by show 2 * 0 + _ ≤ _; exact Nat.le_of_eq rfl) (hb hby at_247) ?_
        intro T42 v42 L42 X42 q42
        obtain ⟨rfl, Nq42, e42⟩ := q42
        have N42 := Fr.app N41 Nq42
        show Go _ _ _ _ _ _ _ (T42.setTop (mkF m 250 #[.val (.int x1), .val (.int x2), .val (.int x3), .val (.int x4), .val (.ref al), .val (.int (2 : Int32)), .val (.int r), .val (.ref b0), .val (.ref b1), .val (.ref b2), .val (.int (1 : Int32)), .val (.int (1 : Int32)), .val (.int (0 : Int32)), .val (.ref a), .val got, .val .null] [(.int (own_w (0 : Int32) x3 (1 : Int32) x1 (1 : Int32) x2))]))
        by_cases c250 : (own_w (0 : Int32) x3 (1 : Int32) x1 (1 : Int32) x2) = (0 : Int32)
        · refine Go.of (fun _ q => XS.ifYes X42.here hx rfl (pc0 := 250) (pc' := 257) rfl (hb hby at_250) rfl ((if0 _ _).trans (teq c250).1) (by decide) (by decide) q) ?_
          show Go _ _ _ _ _ _ _ (T42.setTop (mkF m 257 #[.val (.int x1), .val (.int x2), .val (.int x3), .val (.int x4), .val (.ref al), .val (.int (2 : Int32)), .val (.int r), .val (.ref b0), .val (.ref b1), .val (.ref b2), .val (.int (1 : Int32)), .val (.int (1 : Int32)), .val (.int (0 : Int32)), .val (.ref a), .val got, .val .null] []))
          exact J43 T42 _ _ (pad X42 (by decide) (by decide)) e42 N42 (by rw [if_pos c206, if_pos c228, if_pos c250]) rfl
        · refine Go.of (fun _ q => XS.ifNo X42.here hx rfl (hb hby at_250) rfl ((if0 _ _).trans (feq c250).1) q) ?_
          show Go _ _ _ _ _ _ _ (T42.setTop (mkF m 253 #[.val (.int x1), .val (.int x2), .val (.int x3), .val (.int x4), .val (.ref al), .val (.int (2 : Int32)), .val (.int r), .val (.ref b0), .val (.ref b1), .val (.ref b2), .val (.int (1 : Int32)), .val (.int (1 : Int32)), .val (.int (0 : Int32)), .val (.ref a), .val got, .val .null] []))
          refine Go.of (fun _ q => XS.aload X42.here hx rfl (hb hby at_253) rfl rfl q) ?_
          show Go _ _ _ _ _ _ _ (T42.setTop (mkF m 255 #[.val (.int x1), .val (.int x2), .val (.int x3), .val (.int x4), .val (.ref al), .val (.int (2 : Int32)), .val (.int r), .val (.ref b0), .val (.ref b1), .val (.ref b2), .val (.int (1 : Int32)), .val (.int (1 : Int32)), .val (.int (0 : Int32)), .val (.ref a), .val got, .val .null] [(.ref b2)]))
          refine Go.of (fun _ q => XS.astore X42.here hx rfl (hb hby at_255) rfl rfl (l' := #[.val (.int x1), .val (.int x2), .val (.int x3), .val (.int x4), .val (.ref al), .val (.int (2 : Int32)), .val (.int r), .val (.ref b0), .val (.ref b1), .val (.ref b2), .val (.int (1 : Int32)), .val (.int (1 : Int32)), .val (.int (0 : Int32)), .val (.ref a), .val got, .val (.ref b2)]) rfl q) ?_
          show Go _ _ _ _ _ _ _ (T42.setTop (mkF m 257 #[.val (.int x1), .val (.int x2), .val (.int x3), .val (.int x4), .val (.ref al), .val (.int (2 : Int32)), .val (.int r), .val (.ref b0), .val (.ref b1), .val (.ref b2), .val (.int (1 : Int32)), .val (.int (1 : Int32)), .val (.int (0 : Int32)), .val (.ref a), .val got, .val (.ref b2)] []))
          exact J43 T42 _ _ (pad X42 (by decide) (by decide)) e42 N42 (by rw [if_pos c206, if_pos c228, if_neg c250]) rfl
      · refine Go.of (fun _ q => XS.ifNo X41.here hx rfl (hb hby at_228) rfl ((if0 _ _).trans (feq c228).1) q) ?_
        show Go _ _ _ _ _ _ _ (T41.setTop (mkF m 231 #[.val (.int x1), .val (.int x2), .val (.int x3), .val (.int x4), .val (.ref al), .val (.int (2 : Int32)), .val (.int r), .val (.ref b0), .val (.ref b1), .val (.ref b2), .val (.int (1 : Int32)), .val (.int (1 : Int32)), .val (.int (0 : Int32)), .val (.ref a), .val got, .val .null] []))
        refine Go.of (fun _ q => XS.aload X41.here hx rfl (hb hby at_231) rfl rfl q) ?_
        show Go _ _ _ _ _ _ _ (T41.setTop (mkF m 233 #[.val (.int x1), .val (.int x2), .val (.int x3), .val (.int x4), .val (.ref al), .val (.int (2 : Int32)), .val (.int r), .val (.ref b0), .val (.ref b1), .val (.ref b2), .val (.int (1 : Int32)), .val (.int (1 : Int32)), .val (.int (0 : Int32)), .val (.ref a), .val got, .val .null] [(.ref b1)]))
        refine Go.of (fun _ q => XS.astore X41.here hx rfl (hb hby at_233) rfl rfl (l' := #[.val (.int x1), .val (.int x2), .val (.int x3), .val (.int x4), .val (.ref al), .val (.int (2 : Int32)), .val (.int r), .val (.ref b0), .val (.ref b1), .val (.ref b2), .val (.int (1 : Int32)), .val (.int (1 : Int32)), .val (.int (0 : Int32)), .val (.ref a), .val got, .val (.ref b1)]) rfl q) ?_
        show Go _ _ _ _ _ _ _ (T41.setTop (mkF m 235 #[.val (.int x1), .val (.int x2), .val (.int x3), .val (.int x4), .val (.ref al), .val (.int (2 : Int32)), .val (.int r), .val (.ref b0), .val (.ref b1), .val (.ref b2), .val (.int (1 : Int32)), .val (.int (1 : Int32)), .val (.int (0 : Int32)), .val (.ref a), .val got, .val (.ref b1)] []))
        refine Go.of (fun _ q => XS.goto X41.here hx rfl (pc0 := 235) (pc' := 257) rfl (hb hby at_235) (by decide) (by decide) q) ?_
        show Go _ _ _ _ _ _ _ (T41.setTop (mkF m 257 #[.val (.int x1), .val (.int x2), .val (.int x3), .val (.int x4), .val (.ref al), .val (.int (2 : Int32)), .val (.int r), .val (.ref b0), .val (.ref b1), .val (.ref b2), .val (.int (1 : Int32)), .val (.int (1 : Int32)), .val (.int (0 : Int32)), .val (.ref a), .val got, .val (.ref b1)] []))
        exact J43 T41 _ _ (pad X41 (by decide) (by decide)) e41 N41 (by rw [if_pos c206, if_neg c228]) rfl
    · refine Go.of (fun _ q => XS.ifNo X40.here hx rfl (hb hby at_206) rfl ((if0 _ _).trans (feq c206).1) q) ?_
      show Go _ _ _ _ _ _ _ (T40.setTop (mkF m 209 #[.val (.int x1), .val (.int x2), .val (.int x3), .val (.int x4), .val (.ref al), .val (.int (2 : Int32)), .val (.int r), .val (.ref b0), .val (.ref b1), .val (.ref b2), .val (.int (1 : Int32)), .val (.int (1 : Int32)), .val (.int (0 : Int32)), .val (.ref a), .val got, .val .null] []))
      refine Go.of (fun _ q => XS.aload X40.here hx rfl (hb hby at_209) rfl rfl q) ?_
      show Go _ _ _ _ _ _ _ (T40.setTop (mkF m 211 #[.val (.int x1), .val (.int x2), .val (.int x3), .val (.int x4), .val (.ref al), .val (.int (2 : Int32)), .val (.int r), .val (.ref b0), .val (.ref b1), .val (.ref b2), .val (.int (1 : Int32)), .val (.int (1 : Int32)), .val (.int (0 : Int32)), .val (.ref a), .val got, .val .null] [(.ref b0)]))
      refine Go.of (fun _ q => XS.astore X40.here hx rfl (hb hby at_211) rfl rfl (l' := #[.val (.int x1), .val (.int x2), .val (.int x3), .val (.int x4), .val (.ref al), .val (.int (2 : Int32)), .val (.int r), .val (.ref b0), .val (.ref b1), .val (.ref b2), .val (.int (1 : Int32)), .val (.int (1 : Int32)), .val (.int (0 : Int32)), .val (.ref a), .val got, .val (.ref b0)]) rfl q) ?_
      show Go _ _ _ _ _ _ _ (T40.setTop (mkF m 213 #[.val (.int x1), .val (.int x2), .val (.int x3), .val (.int x4), .val (.ref al), .val (.int (2 : Int32)), .val (.int r), .val (.ref b0), .val (.ref b1), .val (.ref b2), .val (.int (1 : Int32)), .val (.int (1 : Int32)), .val (.int (0 : Int32)), .val (.ref a), .val got, .val (.ref b0)] []))
      refine Go.of (fun _ q => XS.goto X40.here hx rfl (pc0 := 213) (pc' := 257) rfl (hb hby at_213) (by decide) (by decide) q) ?_
      show Go _ _ _ _ _ _ _ (T40.setTop (mkF m 257 #[.val (.int x1), .val (.int x2), .val (.int x3), .val (.int x4), .val (.ref al), .val (.int (2 : Int32)), .val (.int r), .val (.ref b0), .val (.ref b1), .val (.ref b2), .val (.int (1 : Int32)), .val (.int (1 : Int32)), .val (.int (0 : Int32)), .val (.ref a), .val got, .val (.ref b0)] []))
      exact J43 T40 _ _ (pad X40 (by decide) (by decide)) e40 N40 (by rw [if_neg c206]) rfl
  · rw [q3]
    show Go _ _ _ _ _ _ _ (T13.setTop (mkF m 46 #[.val (.int x1), .val (.int x2), .val (.int x3), .val (.int x4), .val (.ref al), .unset, .unset, .unset, .unset, .unset, .unset, .unset, .unset, .unset, .unset, .unset] [(.int (3 : Int32))]))
    refine Go.of (fun _ q => XS.istore X13.here hx rfl (hb hby at_46) rfl (l' := #[.val (.int x1), .val (.int x2), .val (.int x3), .val (.int x4), .val (.ref al), .val (.int (3 : Int32)), .unset, .unset, .unset, .unset, .unset, .unset, .unset, .unset, .unset, .unset]) rfl q) ?_
    show Go _ _ _ _ _ _ _ (T13.setTop (mkF m 48 #[.val (.int x1), .val (.int x2), .val (.int x3), .val (.int x4), .val (.ref al), .val (.int (3 : Int32)), .unset, .unset, .unset, .unset, .unset, .unset, .unset, .unset, .unset, .unset] []))
    refine Go.of (fun _ q => XS.iloadN X13.here hx rfl (hb hby at_48) rfl q) ?_
    show Go _ _ _ _ _ _ _ (T13.setTop (mkF m 49 #[.val (.int x1), .val (.int x2), .val (.int x3), .val (.int x4), .val (.ref al), .val (.int (3 : Int32)), .unset, .unset, .unset, .unset, .unset, .unset, .unset, .unset, .unset, .unset] [(.int x4)]))
    refine Go.of (fun _ q => XS.iconst X13.here hx rfl (hb hby at_49) q) ?_
    show Go _ _ _ _ _ _ _ (T13.setTop (mkF m 50 #[.val (.int x1), .val (.int x2), .val (.int x3), .val (.int x4), .val (.ref al), .val (.int (3 : Int32)), .unset, .unset, .unset, .unset, .unset, .unset, .unset, .unset, .unset, .unset] [(.int (2 : Int32)), (.int x4)]))
    refine Go.of (fun _ q => XS.iushr X13.here hx rfl (hb hby at_50) rfl q) ?_
    show Go _ _ _ _ _ _ _ (T13.setTop (mkF m 51 #[.val (.int x1), .val (.int x2), .val (.int x3), .val (.int x4), .val (.ref al), .val (.int (3 : Int32)), .unset, .unset, .unset, .unset, .unset, .unset, .unset, .unset, .unset, .unset] [(.int ((x4.toUInt32 >>> ((2 : Int32) &&& 31).toUInt32).toInt32))]))
    refine Go.of (fun _ q => X13.ldcInt hx hown (mvT hZ (hw _ (List.mem_of_getElem? (i := 16) rfl))) (g := (mkF m 51 #[.val (.int x1), .val (.int x2), .val (.int x3), .val (.int x4), .val (.ref al), .val (.int (3 : Int32)), .unset, .unset, .unset, .unset, .unset, .unset, .unset, .unset, .unset, .unset] [(.int ((x4.toUInt32 >>> ((2 : Int32) &&& 31).toUInt32).toInt32))])) rfl (hb hby at_51) _ q) ?_
    show Go _ _ _ _ _ _ _ (T13.setTop (mkF m 53 #[.val (.int x1), .val (.int x2), .val (.int x3), .val (.int x4), .val (.ref al), .val (.int (3 : Int32)), .unset, .unset, .unset, .unset, .unset, .unset, .unset, .unset, .unset, .unset] [(.int (2147483647 : Int32)), (.int ((x4.toUInt32 >>> ((2 : Int32) &&& 31).toUInt32).toInt32))]))
    refine Go.of (fun _ q => XS.iand X13.here hx rfl (hb hby at_53) rfl q) ?_
    show Go _ _ _ _ _ _ _ (T13.setTop (mkF m 54 #[.val (.int x1), .val (.int x2), .val (.int x3), .val (.int x4), .val (.ref al), .val (.int (3 : Int32)), .unset, .unset, .unset, .unset, .unset, .unset, .unset, .unset, .unset, .unset] [(.int (((x4.toUInt32 >>> ((2 : Int32) &&& 31).toUInt32).toInt32) &&& (2147483647 : Int32)))]))
    refine Go.of (fun _ q => XS.bipush X13.here hx rfl (hb hby at_54) q) ?_
    show Go _ _ _ _ _ _ _ (T13.setTop (mkF m 56 #[.val (.int x1), .val (.int x2), .val (.int x3), .val (.int x4), .val (.ref al), .val (.int (3 : Int32)), .unset, .unset, .unset, .unset, .unset, .unset, .unset, .unset, .unset, .unset] [(.int (6 : Int32)), (.int (((x4.toUInt32 >>> ((2 : Int32) &&& 31).toUInt32).toInt32) &&& (2147483647 : Int32)))]))
    refine Go.of (fun _ q => iremM X13 hx rfl (hb hby at_56) rfl (by decide) q) ?_
    show Go _ _ _ _ _ _ _ (T13.setTop (mkF m 57 #[.val (.int x1), .val (.int x2), .val (.int x3), .val (.int x4), .val (.ref al), .val (.int (3 : Int32)), .unset, .unset, .unset, .unset, .unset, .unset, .unset, .unset, .unset, .unset] [(.int ((((x4.toUInt32 >>> ((2 : Int32) &&& 31).toUInt32).toInt32) &&& (2147483647 : Int32)) % (6 : Int32)))]))
    refine Go.of (fun _ q => XS.istore X13.here hx rfl (hb hby at_57) rfl (l' := #[.val (.int x1), .val (.int x2), .val (.int x3), .val (.int x4), .val (.ref al), .val (.int (3 : Int32)), .val (.int ((((x4.toUInt32 >>> ((2 : Int32) &&& 31).toUInt32).toInt32) &&& (2147483647 : Int32)) % (6 : Int32))), .unset, .unset, .unset, .unset, .unset, .unset, .unset, .unset, .unset]) rfl q) ?_
    obtain ⟨r, hr⟩ : ∃ z, z = ((((x4.toUInt32 >>> ((2 : Int32) &&& 31).toUInt32).toInt32) &&& (2147483647 : Int32)) % (6 : Int32)) := ⟨_, rfl⟩
    rw [← hr]
    show Go _ _ _ _ _ _ _ (T13.setTop (mkF m 59 #[.val (.int x1), .val (.int x2), .val (.int x3), .val (.int x4), .val (.ref al), .val (.int (3 : Int32)), .val (.int r), .unset, .unset, .unset, .unset, .unset, .unset, .unset, .unset, .unset] []))
    refine Go.of (fun _ q => XS.aload X13.here hx rfl (hb hby at_59) rfl rfl q) ?_
    show Go _ _ _ _ _ _ _ (T13.setTop (mkF m 61 #[.val (.int x1), .val (.int x2), .val (.int x3), .val (.int x4), .val (.ref al), .val (.int (3 : Int32)), .val (.int r), .unset, .unset, .unset, .unset, .unset, .unset, .unset, .unset, .unset] [(.ref al)]))
    refine Go.of (fun _ q => XS.iload X13.here hx rfl (hb hby at_61) rfl q) ?_
    have rr0 := own_irem ((((x4.toUInt32 >>> ((2 : Int32) &&& 31).toUInt32).toInt32) &&& (2147483647 : Int32))) (6 : Int32) (own_mask _).1 rfl
    rw [← hr] at rr0
    have ix0 := rr0.1
    obtain ⟨b0, hb0, E_b0⟩ := own_pick (Exa.ext Od.2 E_0) (Exa.ext Od.2 E_1) (Exa.ext Od.2 E_2) (Exa.ext Od.2 E_3) (Exa.ext Od.2 E_4) (Exa.ext Od.2 E_5) _ ix0.2.2
    show Go _ _ _ _ _ _ _ (T13.setTop (mkF m 63 #[.val (.int x1), .val (.int x2), .val (.int x3), .val (.int x4), .val (.ref al), .val (.int (3 : Int32)), .val (.int r), .unset, .unset, .unset, .unset, .unset, .unset, .unset, .unset, .unset] [(.int r), (.ref al)]))
    refine Go.of (fun _ q => AF.aaload A_al rfl X13 hx hZ e13 ix0 (v := (.ref b0)) hb0 (g := (mkF m 63 #[.val (.int x1), .val (.int x2), .val (.int x3), .val (.int x4), .val (.ref al), .val (.int (3 : Int32)), .val (.int r), .unset, .unset, .unset, .unset, .unset, .unset, .unset, .unset, .unset] [(.int r), (.ref al)])) rfl rfl (hb hby at_63) q) ?_
    show Go _ _ _ _ _ _ _ (T13.setTop (mkF m 64 #[.val (.int x1), .val (.int x2), .val (.int x3), .val (.int x4), .val (.ref al), .val (.int (3 : Int32)), .val (.int r), .unset, .unset, .unset, .unset, .unset, .unset, .unset, .unset, .unset] [(.ref b0)]))
    refine Go.of (fun _ q => XS.astore X13.here hx rfl (hb hby at_64) rfl rfl (l' := #[.val (.int x1), .val (.int x2), .val (.int x3), .val (.int x4), .val (.ref al), .val (.int (3 : Int32)), .val (.int r), .val (.ref b0), .unset, .unset, .unset, .unset, .unset, .unset, .unset, .unset]) rfl q) ?_
    show Go _ _ _ _ _ _ _ (T13.setTop (mkF m 66 #[.val (.int x1), .val (.int x2), .val (.int x3), .val (.int x4), .val (.ref al), .val (.int (3 : Int32)), .val (.int r), .val (.ref b0), .unset, .unset, .unset, .unset, .unset, .unset, .unset, .unset] []))
    refine Go.of (fun _ q => XS.aload X13.here hx rfl (hb hby at_66) rfl rfl q) ?_
    show Go _ _ _ _ _ _ _ (T13.setTop (mkF m 68 #[.val (.int x1), .val (.int x2), .val (.int x3), .val (.int x4), .val (.ref al), .val (.int (3 : Int32)), .val (.int r), .val (.ref b0), .unset, .unset, .unset, .unset, .unset, .unset, .unset, .unset] [(.ref al)]))
    refine Go.of (fun _ q => XS.iload X13.here hx rfl (hb hby at_68) rfl q) ?_
    show Go _ _ _ _ _ _ _ (T13.setTop (mkF m 70 #[.val (.int x1), .val (.int x2), .val (.int x3), .val (.int x4), .val (.ref al), .val (.int (3 : Int32)), .val (.int r), .val (.ref b0), .unset, .unset, .unset, .unset, .unset, .unset, .unset, .unset] [(.int r), (.ref al)]))
    refine Go.of (fun _ q => XS.iconst X13.here hx rfl (hb hby at_70) q) ?_
    show Go _ _ _ _ _ _ _ (T13.setTop (mkF m 71 #[.val (.int x1), .val (.int x2), .val (.int x3), .val (.int x4), .val (.ref al), .val (.int (3 : Int32)), .val (.int r), .val (.ref b0), .unset, .unset, .unset, .unset, .unset, .unset, .unset, .unset] [(.int (1 : Int32)), (.int r), (.ref al)]))
    refine Go.of (fun _ q => XS.iadd X13.here hx rfl (hb hby at_71) rfl q) ?_
    show Go _ _ _ _ _ _ _ (T13.setTop (mkF m 72 #[.val (.int x1), .val (.int x2), .val (.int x3), .val (.int x4), .val (.ref al), .val (.int (3 : Int32)), .val (.int r), .val (.ref b0), .unset, .unset, .unset, .unset, .unset, .unset, .unset, .unset] [(.int (r + (1 : Int32))), (.ref al)]))
    refine Go.of (fun _ q => XS.bipush X13.here hx rfl (hb hby at_72) q) ?_
    show Go _ _ _ _ _ _ _ (T13.setTop (mkF m 74 #[.val (.int x1), .val (.int x2), .val (.int x3), .val (.int x4), .val (.ref al), .val (.int (3 : Int32)), .val (.int r), .val (.ref b0), .unset, .unset, .unset, .unset, .unset, .unset, .unset, .unset] [(.int (6 : Int32)), (.int (r + (1 : Int32))), (.ref al)]))
    refine Go.of (fun _ q => iremM X13 hx rfl (hb hby at_74) rfl (by decide) q) ?_
    have ix1 := (own_irem (r + (1 : Int32)) (6 : Int32) (own_add r (1 : Int32) 1 (by decide) rr0.2.1 rr0.2.2 (by decide)).1 rfl).1
    obtain ⟨b1, hb1, E_b1⟩ := own_pick (Exa.ext Od.2 E_0) (Exa.ext Od.2 E_1) (Exa.ext Od.2 E_2) (Exa.ext Od.2 E_3) (Exa.ext Od.2 E_4) (Exa.ext Od.2 E_5) _ ix1.2.2
    show Go _ _ _ _ _ _ _ (T13.setTop (mkF m 75 #[.val (.int x1), .val (.int x2), .val (.int x3), .val (.int x4), .val (.ref al), .val (.int (3 : Int32)), .val (.int r), .val (.ref b0), .unset, .unset, .unset, .unset, .unset, .unset, .unset, .unset] [(.int ((r + (1 : Int32)) % (6 : Int32))), (.ref al)]))
    refine Go.of (fun _ q => AF.aaload A_al rfl X13 hx hZ e13 ix1 (v := (.ref b1)) hb1 (g := (mkF m 75 #[.val (.int x1), .val (.int x2), .val (.int x3), .val (.int x4), .val (.ref al), .val (.int (3 : Int32)), .val (.int r), .val (.ref b0), .unset, .unset, .unset, .unset, .unset, .unset, .unset, .unset] [(.int ((r + (1 : Int32)) % (6 : Int32))), (.ref al)])) rfl rfl (hb hby at_75) q) ?_
    show Go _ _ _ _ _ _ _ (T13.setTop (mkF m 76 #[.val (.int x1), .val (.int x2), .val (.int x3), .val (.int x4), .val (.ref al), .val (.int (3 : Int32)), .val (.int r), .val (.ref b0), .unset, .unset, .unset, .unset, .unset, .unset, .unset, .unset] [(.ref b1)]))
    refine Go.of (fun _ q => XS.astore X13.here hx rfl (hb hby at_76) rfl rfl (l' := #[.val (.int x1), .val (.int x2), .val (.int x3), .val (.int x4), .val (.ref al), .val (.int (3 : Int32)), .val (.int r), .val (.ref b0), .val (.ref b1), .unset, .unset, .unset, .unset, .unset, .unset, .unset]) rfl q) ?_
    show Go _ _ _ _ _ _ _ (T13.setTop (mkF m 78 #[.val (.int x1), .val (.int x2), .val (.int x3), .val (.int x4), .val (.ref al), .val (.int (3 : Int32)), .val (.int r), .val (.ref b0), .val (.ref b1), .unset, .unset, .unset, .unset, .unset, .unset, .unset] []))
    refine Go.of (fun _ q => XS.aload X13.here hx rfl (hb hby at_78) rfl rfl q) ?_
    show Go _ _ _ _ _ _ _ (T13.setTop (mkF m 80 #[.val (.int x1), .val (.int x2), .val (.int x3), .val (.int x4), .val (.ref al), .val (.int (3 : Int32)), .val (.int r), .val (.ref b0), .val (.ref b1), .unset, .unset, .unset, .unset, .unset, .unset, .unset] [(.ref al)]))
    refine Go.of (fun _ q => XS.iload X13.here hx rfl (hb hby at_80) rfl q) ?_
    show Go _ _ _ _ _ _ _ (T13.setTop (mkF m 82 #[.val (.int x1), .val (.int x2), .val (.int x3), .val (.int x4), .val (.ref al), .val (.int (3 : Int32)), .val (.int r), .val (.ref b0), .val (.ref b1), .unset, .unset, .unset, .unset, .unset, .unset, .unset] [(.int r), (.ref al)]))
    refine Go.of (fun _ q => XS.iconst X13.here hx rfl (hb hby at_82) q) ?_
    show Go _ _ _ _ _ _ _ (T13.setTop (mkF m 83 #[.val (.int x1), .val (.int x2), .val (.int x3), .val (.int x4), .val (.ref al), .val (.int (3 : Int32)), .val (.int r), .val (.ref b0), .val (.ref b1), .unset, .unset, .unset, .unset, .unset, .unset, .unset] [(.int (2 : Int32)), (.int r), (.ref al)]))
    refine Go.of (fun _ q => XS.iadd X13.here hx rfl (hb hby at_83) rfl q) ?_
    show Go _ _ _ _ _ _ _ (T13.setTop (mkF m 84 #[.val (.int x1), .val (.int x2), .val (.int x3), .val (.int x4), .val (.ref al), .val (.int (3 : Int32)), .val (.int r), .val (.ref b0), .val (.ref b1), .unset, .unset, .unset, .unset, .unset, .unset, .unset] [(.int (r + (2 : Int32))), (.ref al)]))
    refine Go.of (fun _ q => XS.bipush X13.here hx rfl (hb hby at_84) q) ?_
    show Go _ _ _ _ _ _ _ (T13.setTop (mkF m 86 #[.val (.int x1), .val (.int x2), .val (.int x3), .val (.int x4), .val (.ref al), .val (.int (3 : Int32)), .val (.int r), .val (.ref b0), .val (.ref b1), .unset, .unset, .unset, .unset, .unset, .unset, .unset] [(.int (6 : Int32)), (.int (r + (2 : Int32))), (.ref al)]))
    refine Go.of (fun _ q => iremM X13 hx rfl (hb hby at_86) rfl (by decide) q) ?_
    have ix2 := (own_irem (r + (2 : Int32)) (6 : Int32) (own_add r (2 : Int32) 2 (by decide) rr0.2.1 rr0.2.2 (by decide)).1 rfl).1
    obtain ⟨b2, hb2, E_b2⟩ := own_pick (Exa.ext Od.2 E_0) (Exa.ext Od.2 E_1) (Exa.ext Od.2 E_2) (Exa.ext Od.2 E_3) (Exa.ext Od.2 E_4) (Exa.ext Od.2 E_5) _ ix2.2.2
    show Go _ _ _ _ _ _ _ (T13.setTop (mkF m 87 #[.val (.int x1), .val (.int x2), .val (.int x3), .val (.int x4), .val (.ref al), .val (.int (3 : Int32)), .val (.int r), .val (.ref b0), .val (.ref b1), .unset, .unset, .unset, .unset, .unset, .unset, .unset] [(.int ((r + (2 : Int32)) % (6 : Int32))), (.ref al)]))
    refine Go.of (fun _ q => AF.aaload A_al rfl X13 hx hZ e13 ix2 (v := (.ref b2)) hb2 (g := (mkF m 87 #[.val (.int x1), .val (.int x2), .val (.int x3), .val (.int x4), .val (.ref al), .val (.int (3 : Int32)), .val (.int r), .val (.ref b0), .val (.ref b1), .unset, .unset, .unset, .unset, .unset, .unset, .unset] [(.int ((r + (2 : Int32)) % (6 : Int32))), (.ref al)])) rfl rfl (hb hby at_87) q) ?_
    show Go _ _ _ _ _ _ _ (T13.setTop (mkF m 88 #[.val (.int x1), .val (.int x2), .val (.int x3), .val (.int x4), .val (.ref al), .val (.int (3 : Int32)), .val (.int r), .val (.ref b0), .val (.ref b1), .unset, .unset, .unset, .unset, .unset, .unset, .unset] [(.ref b2)]))
    refine Go.of (fun _ q => XS.astore X13.here hx rfl (hb hby at_88) rfl rfl (l' := #[.val (.int x1), .val (.int x2), .val (.int x3), .val (.int x4), .val (.ref al), .val (.int (3 : Int32)), .val (.int r), .val (.ref b0), .val (.ref b1), .val (.ref b2), .unset, .unset, .unset, .unset, .unset, .unset]) rfl q) ?_
    show Go _ _ _ _ _ _ _ (T13.setTop (mkF m 90 #[.val (.int x1), .val (.int x2), .val (.int x3), .val (.int x4), .val (.ref al), .val (.int (3 : Int32)), .val (.int r), .val (.ref b0), .val (.ref b1), .val (.ref b2), .unset, .unset, .unset, .unset, .unset, .unset] []))
    refine Go.of (fun _ q => XS.iload X13.here hx rfl (hb hby at_90) rfl q) ?_
    show Go _ _ _ _ _ _ _ (T13.setTop (mkF m 92 #[.val (.int x1), .val (.int x2), .val (.int x3), .val (.int x4), .val (.ref al), .val (.int (3 : Int32)), .val (.int r), .val (.ref b0), .val (.ref b1), .val (.ref b2), .unset, .unset, .unset, .unset, .unset, .unset] [(.int (3 : Int32))]))
    refine Go.of (fun _ q => XS.iconst X13.here hx rfl (hb hby at_92) q) ?_
    show Go _ _ _ _ _ _ _ (T13.setTop (mkF m 93 #[.val (.int x1), .val (.int x2), .val (.int x3), .val (.int x4), .val (.ref al), .val (.int (3 : Int32)), .val (.int r), .val (.ref b0), .val (.ref b1), .val (.ref b2), .unset, .unset, .unset, .unset, .unset, .unset] [(.int (1 : Int32)), (.int (3 : Int32))]))
    refine Go.of (fun _ q => XS.icmpNo X13.here hx rfl (hb hby at_93) rfl (flt (by decide)).1 q) ?_
    show Go _ _ _ _ _ _ _ (T13.setTop (mkF m 96 #[.val (.int x1), .val (.int x2), .val (.int x3), .val (.int x4), .val (.ref al), .val (.int (3 : Int32)), .val (.int r), .val (.ref b0), .val (.ref b1), .val (.ref b2), .unset, .unset, .unset, .unset, .unset, .unset] []))
    refine Go.of (fun _ q => XS.iconst X13.here hx rfl (hb hby at_96) q) ?_
    show Go _ _ _ _ _ _ _ (T13.setTop (mkF m 97 #[.val (.int x1), .val (.int x2), .val (.int x3), .val (.int x4), .val (.ref al), .val (.int (3 : Int32)), .val (.int r), .val (.ref b0), .val (.ref b1), .val (.ref b2), .unset, .unset, .unset, .unset, .unset, .unset] [(.int (1 : Int32))]))
    refine Go.of (fun _ q => XS.goto X13.here hx rfl (pc0 := 97) (pc' := 101) rfl (hb hby at_97) (by decide) (by decide) q) ?_
    show Go _ _ _ _ _ _ _ (T13.setTop (mkF m 101 #[.val (.int x1), .val (.int x2), .val (.int x3), .val (.int x4), .val (.ref al), .val (.int (3 : Int32)), .val (.int r), .val (.ref b0), .val (.ref b1), .val (.ref b2), .unset, .unset, .unset, .unset, .unset, .unset] [(.int (1 : Int32))]))
    refine Go.of (fun _ q => XS.istore X13.here hx rfl (hb hby at_101) rfl (l' := #[.val (.int x1), .val (.int x2), .val (.int x3), .val (.int x4), .val (.ref al), .val (.int (3 : Int32)), .val (.int r), .val (.ref b0), .val (.ref b1), .val (.ref b2), .val (.int (1 : Int32)), .unset, .unset, .unset, .unset, .unset]) rfl q) ?_
    show Go _ _ _ _ _ _ _ (T13.setTop (mkF m 103 #[.val (.int x1), .val (.int x2), .val (.int x3), .val (.int x4), .val (.ref al), .val (.int (3 : Int32)), .val (.int r), .val (.ref b0), .val (.ref b1), .val (.ref b2), .val (.int (1 : Int32)), .unset, .unset, .unset, .unset, .unset] []))
    refine Go.of (fun _ q => XS.iload X13.here hx rfl (hb hby at_103) rfl q) ?_
    show Go _ _ _ _ _ _ _ (T13.setTop (mkF m 105 #[.val (.int x1), .val (.int x2), .val (.int x3), .val (.int x4), .val (.ref al), .val (.int (3 : Int32)), .val (.int r), .val (.ref b0), .val (.ref b1), .val (.ref b2), .val (.int (1 : Int32)), .unset, .unset, .unset, .unset, .unset] [(.int (3 : Int32))]))
    refine Go.of (fun _ q => XS.iconst X13.here hx rfl (hb hby at_105) q) ?_
    show Go _ _ _ _ _ _ _ (T13.setTop (mkF m 106 #[.val (.int x1), .val (.int x2), .val (.int x3), .val (.int x4), .val (.ref al), .val (.int (3 : Int32)), .val (.int r), .val (.ref b0), .val (.ref b1), .val (.ref b2), .val (.int (1 : Int32)), .unset, .unset, .unset, .unset, .unset] [(.int (2 : Int32)), (.int (3 : Int32))]))
    refine Go.of (fun _ q => XS.icmpNo X13.here hx rfl (hb hby at_106) rfl (flt (by decide)).1 q) ?_
    show Go _ _ _ _ _ _ _ (T13.setTop (mkF m 109 #[.val (.int x1), .val (.int x2), .val (.int x3), .val (.int x4), .val (.ref al), .val (.int (3 : Int32)), .val (.int r), .val (.ref b0), .val (.ref b1), .val (.ref b2), .val (.int (1 : Int32)), .unset, .unset, .unset, .unset, .unset] []))
    refine Go.of (fun _ q => XS.iconst X13.here hx rfl (hb hby at_109) q) ?_
    show Go _ _ _ _ _ _ _ (T13.setTop (mkF m 110 #[.val (.int x1), .val (.int x2), .val (.int x3), .val (.int x4), .val (.ref al), .val (.int (3 : Int32)), .val (.int r), .val (.ref b0), .val (.ref b1), .val (.ref b2), .val (.int (1 : Int32)), .unset, .unset, .unset, .unset, .unset] [(.int (1 : Int32))]))
    refine Go.of (fun _ q => XS.goto X13.here hx rfl (pc0 := 110) (pc' := 114) rfl (hb hby at_110) (by decide) (by decide) q) ?_
    show Go _ _ _ _ _ _ _ (T13.setTop (mkF m 114 #[.val (.int x1), .val (.int x2), .val (.int x3), .val (.int x4), .val (.ref al), .val (.int (3 : Int32)), .val (.int r), .val (.ref b0), .val (.ref b1), .val (.ref b2), .val (.int (1 : Int32)), .unset, .unset, .unset, .unset, .unset] [(.int (1 : Int32))]))
    refine Go.of (fun _ q => XS.istore X13.here hx rfl (hb hby at_114) rfl (l' := #[.val (.int x1), .val (.int x2), .val (.int x3), .val (.int x4), .val (.ref al), .val (.int (3 : Int32)), .val (.int r), .val (.ref b0), .val (.ref b1), .val (.ref b2), .val (.int (1 : Int32)), .val (.int (1 : Int32)), .unset, .unset, .unset, .unset]) rfl q) ?_
    show Go _ _ _ _ _ _ _ (T13.setTop (mkF m 116 #[.val (.int x1), .val (.int x2), .val (.int x3), .val (.int x4), .val (.ref al), .val (.int (3 : Int32)), .val (.int r), .val (.ref b0), .val (.ref b1), .val (.ref b2), .val (.int (1 : Int32)), .val (.int (1 : Int32)), .unset, .unset, .unset, .unset] []))
    refine Go.of (fun _ q => XS.iload X13.here hx rfl (hb hby at_116) rfl q) ?_
    show Go _ _ _ _ _ _ _ (T13.setTop (mkF m 118 #[.val (.int x1), .val (.int x2), .val (.int x3), .val (.int x4), .val (.ref al), .val (.int (3 : Int32)), .val (.int r), .val (.ref b0), .val (.ref b1), .val (.ref b2), .val (.int (1 : Int32)), .val (.int (1 : Int32)), .unset, .unset, .unset, .unset] [(.int (3 : Int32))]))
    refine Go.of (fun _ q => XS.iconst X13.here hx rfl (hb hby at_118) q) ?_
    show Go _ _ _ _ _ _ _ (T13.setTop (mkF m 119 #[.val (.int x1), .val (.int x2), .val (.int x3), .val (.int x4), .val (.ref al), .val (.int (3 : Int32)), .val (.int r), .val (.ref b0), .val (.ref b1), .val (.ref b2), .val (.int (1 : Int32)), .val (.int (1 : Int32)), .unset, .unset, .unset, .unset] [(.int (3 : Int32)), (.int (3 : Int32))]))
    refine Go.of (fun _ q => XS.icmpNo X13.here hx rfl (hb hby at_119) rfl (flt (by decide)).1 q) ?_
    show Go _ _ _ _ _ _ _ (T13.setTop (mkF m 122 #[.val (.int x1), .val (.int x2), .val (.int x3), .val (.int x4), .val (.ref al), .val (.int (3 : Int32)), .val (.int r), .val (.ref b0), .val (.ref b1), .val (.ref b2), .val (.int (1 : Int32)), .val (.int (1 : Int32)), .unset, .unset, .unset, .unset] []))
    refine Go.of (fun _ q => XS.iconst X13.here hx rfl (hb hby at_122) q) ?_
    show Go _ _ _ _ _ _ _ (T13.setTop (mkF m 123 #[.val (.int x1), .val (.int x2), .val (.int x3), .val (.int x4), .val (.ref al), .val (.int (3 : Int32)), .val (.int r), .val (.ref b0), .val (.ref b1), .val (.ref b2), .val (.int (1 : Int32)), .val (.int (1 : Int32)), .unset, .unset, .unset, .unset] [(.int (1 : Int32))]))
    refine Go.of (fun _ q => XS.goto X13.here hx rfl (pc0 := 123) (pc' := 127) rfl (hb hby at_123) (by decide) (by decide) q) ?_
    show Go _ _ _ _ _ _ _ (T13.setTop (mkF m 127 #[.val (.int x1), .val (.int x2), .val (.int x3), .val (.int x4), .val (.ref al), .val (.int (3 : Int32)), .val (.int r), .val (.ref b0), .val (.ref b1), .val (.ref b2), .val (.int (1 : Int32)), .val (.int (1 : Int32)), .unset, .unset, .unset, .unset] [(.int (1 : Int32))]))
    refine Go.of (fun _ q => XS.istore X13.here hx rfl (hb hby at_127) rfl (l' := #[.val (.int x1), .val (.int x2), .val (.int x3), .val (.int x4), .val (.ref al), .val (.int (3 : Int32)), .val (.int r), .val (.ref b0), .val (.ref b1), .val (.ref b2), .val (.int (1 : Int32)), .val (.int (1 : Int32)), .val (.int (1 : Int32)), .unset, .unset, .unset]) rfl q) ?_
    show Go _ _ _ _ _ _ _ (T13.setTop (mkF m 129 #[.val (.int x1), .val (.int x2), .val (.int x3), .val (.int x4), .val (.ref al), .val (.int (3 : Int32)), .val (.int r), .val (.ref b0), .val (.ref b1), .val (.ref b2), .val (.int (1 : Int32)), .val (.int (1 : Int32)), .val (.int (1 : Int32)), .unset, .unset, .unset] []))
    obtain ⟨T44, h44, X44, e44, E44, A44, D44, -, st44⟩ := newO X13 hx hZ hown (hw _ (List.mem_of_getElem? (i := 17) rfl)) (hw _ (List.mem_of_getElem? (i := 18) rfl)) (hw _ (List.mem_of_getElem? (i := 19) rfl)) e13 (g := (mkF m 129 #[.val (.int x1), .val (.int x2), .val (.int x3), .val (.int x4), .val (.ref al), .val (.int (3 : Int32)), .val (.int r), .val (.ref b0), .val (.ref b1), .val (.ref b2), .val (.int (1 : Int32)), .val (.int (1 : Int32)), .val (.int (1 : Int32)), .unset, .unset, .unset] [])) rfl (hb hby at_129) (by decide) (by decide)
    obtain ⟨a, g44⟩ : ∃ z, z = h13.size := ⟨_, rfl⟩
    rw [← g44] at A44 D44 st44
    refine Go.of st44 ?_
    have g_a : n0 ≤ a := Nat.le_trans Zs (Nat.le_of_eq g44.symm)
    have sz_a : h0.size ≤ a := Nat.le_trans Kp.1 (Nat.le_of_eq g44.symm)
    have ne_al_a : al ≠ a := Nat.ne_of_lt (Nat.lt_of_lt_of_le E_al.lt (Nat.le_of_eq g44.symm))
    have ne_b0_a : b0 ≠ a := Nat.ne_of_lt (Nat.lt_of_lt_of_le E_b0.lt (Nat.le_of_eq g44.symm))
    have ne_b1_a : b1 ≠ a := Nat.ne_of_lt (Nat.lt_of_lt_of_le E_b1.lt (Nat.le_of_eq g44.symm))
    have ne_b2_a : b2 ≠ a := Nat.ne_of_lt (Nat.lt_of_lt_of_le E_b2.lt (Nat.le_of_eq g44.symm))
    have Zs := Nat.le_trans Zs E44.1
    have Kp := Kp.ext E44
    have Od := Od.ext E44
    have E_al := E_al.ext E44
    have A_al := A_al.ext E44
    have E_b0 := E_b0.ext E44
    have E_b1 := E_b1.ext E44
    have E_b2 := E_b2.ext E44
    have E_a := A44
    have F_a_highestCount : Fld Z h44 a "com/example/tundra_ascent/tundraascent/rules/StrictlyMost" "highestCount" "I" (.int (0 : Int32)) := D44 (Or.inl (hw _ (List.mem_of_getElem? (i := 32) rfl))) (ty := .int) (by decide)
    have F_a_tied : Fld Z h44 a "com/example/tundra_ascent/tundraascent/rules/StrictlyMost" "tied" "Z" (.int (0 : Int32)) := D44 (Or.inl (hw _ (List.mem_of_getElem? (i := 34) rfl))) (ty := .boolean) (by decide)
    have F_a_highest : Fld Z h44 a "com/example/tundra_ascent/tundraascent/rules/StrictlyMost" "highest" "Lcom/example/tundra_ascent/tundraascent/rules/Animal;" .null := D44 (Or.inl (hw _ (List.mem_of_getElem? (i := 57) rfl))) (ty := (.object "com/example/tundra_ascent/tundraascent/rules/Animal")) (by decide)
    show Go _ _ _ _ _ _ _ (T44.setTop (mkF m 132 #[.val (.int x1), .val (.int x2), .val (.int x3), .val (.int x4), .val (.ref al), .val (.int (3 : Int32)), .val (.int r), .val (.ref b0), .val (.ref b1), .val (.ref b2), .val (.int (1 : Int32)), .val (.int (1 : Int32)), .val (.int (1 : Int32)), .unset, .unset, .unset] [(.ref a)]))
    refine Go.of (fun _ q => XS.dup X44.here hx rfl (hb hby at_132) rfl rfl q) ?_
    show Go _ _ _ _ _ _ _ (T44.setTop (mkF m 133 #[.val (.int x1), .val (.int x2), .val (.int x3), .val (.int x4), .val (.ref al), .val (.int (3 : Int32)), .val (.int r), .val (.ref b0), .val (.ref b1), .val (.ref b2), .val (.int (1 : Int32)), .val (.int (1 : Int32)), .val (.int (1 : Int32)), .unset, .unset, .unset] [(.ref a), (.ref a)]))
    refine Go.special X44 hx hZ (y := (⟨"com/example/tundra_ascent/tundraascent/rules/StrictlyMost", "<init>", "()V"⟩ : MethodName)) (a := a) (argsL := []) rfl hown (hw _ (List.mem_of_getElem? (i := 20) rfl)) (hw _ (List.mem_of_getElem? (i := 21) rfl)) (hw _ (List.mem_of_getElem? (i := 19) rfl)) (hw _ (List.mem_of_getElem? (i := 22) rfl)) (by decide) 1 e44 (rm1 l Z a0 hw a h44 n0 Zs ) (by decide) (by decide) (by decide) (by decide) (g := (mkF m 133 #[.val (.int x1), .val (.int x2), .val (.int x3), .val (.int x4), .val (.ref al), .val (.int (3 : Int32)), .val (.int r), .val (.ref b0), .val (.ref b1), .val (.ref b2), .val (.int (1 : Int32)), .val (.int (1 : Int32)), .val (.int (1 : Int32)), .unset, .unset, .unset] [(.ref a), (.ref a)])) rfl (by rw [hml]; rfl) (rest := [(.ref a)]) (lenOf pd3 rfl) rfl (by show 2 * 0 + _ ≤ _; exact Nat.le_of_eq rfl) (hb hby at_133) ?_
    intro T45 v45 L45 X45 q45
    obtain ⟨rfl, Nq45, e45⟩ := q45
    have N45 := Fr.app N13 Nq45
    show Go _ _ _ _ _ _ _ (T45.setTop (mkF m 136 #[.val (.int x1), .val (.int x2), .val (.int x3), .val (.int x4), .val (.ref al), .val (.int (3 : Int32)), .val (.int r), .val (.ref b0), .val (.ref b1), .val (.ref b2), .val (.int (1 : Int32)), .val (.int (1 : Int32)), .val (.int (1 : Int32)), .unset, .unset, .unset] [(.ref a)]))
    refine Go.of (fun _ q => XS.astore X45.here hx rfl (hb hby at_136) rfl rfl (l' := #[.val (.int x1), .val (.int x2), .val (.int x3), .val (.int x4), .val (.ref al), .val (.int (3 : Int32)), .val (.int r), .val (.ref b0), .val (.ref b1), .val (.ref b2), .val (.int (1 : Int32)), .val (.int (1 : Int32)), .val (.int (1 : Int32)), .val (.ref a), .unset, .unset]) rfl q) ?_
    show Go _ _ _ _ _ _ _ (T45.setTop (mkF m 138 #[.val (.int x1), .val (.int x2), .val (.int x3), .val (.int x4), .val (.ref al), .val (.int (3 : Int32)), .val (.int r), .val (.ref b0), .val (.ref b1), .val (.ref b2), .val (.int (1 : Int32)), .val (.int (1 : Int32)), .val (.int (1 : Int32)), .val (.ref a), .unset, .unset] []))
    refine Go.of (fun _ q => XS.iload X45.here hx rfl (hb hby at_138) rfl q) ?_
    show Go _ _ _ _ _ _ _ (T45.setTop (mkF m 140 #[.val (.int x1), .val (.int x2), .val (.int x3), .val (.int x4), .val (.ref al), .val (.int (3 : Int32)), .val (.int r), .val (.ref b0), .val (.ref b1), .val (.ref b2), .val (.int (1 : Int32)), .val (.int (1 : Int32)), .val (.int (1 : Int32)), .val (.ref a), .unset, .unset] [(.int (1 : Int32))]))
    refine Go.of (fun _ q => XS.ifNo X45.here hx rfl (hb hby at_140) rfl ((if0 _ _).trans (feq (by decide)).1) q) ?_
    show Go _ _ _ _ _ _ _ (T45.setTop (mkF m 143 #[.val (.int x1), .val (.int x2), .val (.int x3), .val (.int x4), .val (.ref al), .val (.int (3 : Int32)), .val (.int r), .val (.ref b0), .val (.ref b1), .val (.ref b2), .val (.int (1 : Int32)), .val (.int (1 : Int32)), .val (.int (1 : Int32)), .val (.ref a), .unset, .unset] []))
    refine Go.of (fun _ q => XS.aload X45.here hx rfl (hb hby at_143) rfl rfl q) ?_
    show Go _ _ _ _ _ _ _ (T45.setTop (mkF m 145 #[.val (.int x1), .val (.int x2), .val (.int x3), .val (.int x4), .val (.ref al), .val (.int (3 : Int32)), .val (.int r), .val (.ref b0), .val (.ref b1), .val (.ref b2), .val (.int (1 : Int32)), .val (.int (1 : Int32)), .val (.int (1 : Int32)), .val (.ref a), .unset, .unset] [(.ref a)]))
    refine Go.of (fun _ q => XS.aload X45.here hx rfl (hb hby at_145) rfl rfl q) ?_
    show Go _ _ _ _ _ _ _ (T45.setTop (mkF m 147 #[.val (.int x1), .val (.int x2), .val (.int x3), .val (.int x4), .val (.ref al), .val (.int (3 : Int32)), .val (.int r), .val (.ref b0), .val (.ref b1), .val (.ref b2), .val (.int (1 : Int32)), .val (.int (1 : Int32)), .val (.int (1 : Int32)), .val (.ref a), .unset, .unset] [(.ref b0), (.ref a)]))
    refine Go.of (fun _ q => XS.iloadN X45.here hx rfl (hb hby at_147) rfl q) ?_
    show Go _ _ _ _ _ _ _ (T45.setTop (mkF m 148 #[.val (.int x1), .val (.int x2), .val (.int x3), .val (.int x4), .val (.ref al), .val (.int (3 : Int32)), .val (.int r), .val (.ref b0), .val (.ref b1), .val (.ref b2), .val (.int (1 : Int32)), .val (.int (1 : Int32)), .val (.int (1 : Int32)), .val (.ref a), .unset, .unset] [(.int x1), (.ref b0), (.ref a)]))
    refine Go.virtual X45 hx hZ (y := (⟨"com/example/tundra_ascent/tundraascent/rules/StrictlyMost", "count", "(Lcom/example/tundra_ascent/tundraascent/rules/Animal;I)V"⟩ : MethodName)) (z := (⟨"com/example/tundra_ascent/tundraascent/rules/StrictlyMost", "count", "(Lcom/example/tundra_ascent/tundraascent/rules/Animal;I)V"⟩ : MethodName)) (a := a) (argsL := [(.ref b0), (.int x1)]) hown (hw _ (List.mem_of_getElem? (i := 26) rfl)) (hw _ (List.mem_of_getElem? (i := 27) rfl)) (notFace_of_selects (args := #[]) (mvT hZ (hw _ (List.mem_of_getElem? (i := 29) rfl)))) (hw _ (List.mem_of_getElem? (i := 29) rfl)) (hw _ (List.mem_of_getElem? (i := 28) rfl)) (hw _ (List.mem_of_getElem? (i := 19) rfl)) (hw _ (List.mem_of_getElem? (i := 30) rfl)) (by decide) 0 e45 E_a (rm3 l Z a0 hw a b0 x1 .null rfl (0 : Int32) (0 : Int32) h44 n0 Zs E_a F_a_highest F_a_highestCount F_a_tied g_a) (by decide) (by decide) (by decide) (by decide) (g := (mkF m 148 #[.val (.int x1), .val (.int x2), .val (.int x3), .val (.int x4), .val (.ref al), .val (.int (3 : Int32)), .val (.int r), .val (.ref b0), .val (.ref b1), .val (.ref b2), .val (.int (1 : Int32)), .val (.int (1 : Int32)), .val (.int (1 : Int32)), .val (.ref a), .unset, .unset] [(.int x1), (.ref b0), (.ref a)])) rfl (by rw [hml]; rfl) (rest := []) (lenOf pd6 rfl) rfl (by show 2 * 0 + _ ≤ _; exact Nat.le_of_eq rfl) (hb hby at_148) ?_
    intro T46 v46 L46 X46 q46
    obtain ⟨rfl, Nq46, K46, f46_0, f46_1, f46_2, f46_3⟩ := q46
    have N46 := Fr.app N45 Nq46
    have Zs := Nat.le_trans Zs K46.1
    have Kp := Kp.trans K46 (allS (P := fun x => x ∈ [] ∨ h0.size ≤ x) (Or.inr sz_a) all0)
    have Od := Od.keep K46 (allS (P := fun x => n0 ≤ x) g_a all0)
    have E_al := E_al.keep K46
    have A_al := A_al.keep K46 (ninS ne_al_a nin0)
    have E_b0 := E_b0.keep K46
    have E_b1 := E_b1.keep K46
    have E_b2 := E_b2.keep K46
    have E_a := E_a.keep K46
    have F_a_highest := f46_1
    have F_a_highestCount := f46_2
    have F_a_tied := f46_3
    show Go _ _ _ _ _ _ _ (T46.setTop (mkF m 151 #[.val (.int x1), .val (.int x2), .val (.int x3), .val (.int x4), .val (.ref al), .val (.int (3 : Int32)), .val (.int r), .val (.ref b0), .val (.ref b1), .val (.ref b2), .val (.int (1 : Int32)), .val (.int (1 : Int32)), .val (.int (1 : Int32)), .val (.ref a), .unset, .unset] []))
    refine Go.of (fun _ q => XS.iload X46.here hx rfl (hb hby at_151) rfl q) ?_
    show Go _ _ _ _ _ _ _ (T46.setTop (mkF m 153 #[.val (.int x1), .val (.int x2), .val (.int x3), .val (.int x4), .val (.ref al), .val (.int (3 : Int32)), .val (.int r), .val (.ref b0), .val (.ref b1), .val (.ref b2), .val (.int (1 : Int32)), .val (.int (1 : Int32)), .val (.int (1 : Int32)), .val (.ref a), .unset, .unset] [(.int (1 : Int32))]))
    refine Go.of (fun _ q => XS.ifNo X46.here hx rfl (hb hby at_153) rfl ((if0 _ _).trans (feq (by decide)).1) q) ?_
    show Go _ _ _ _ _ _ _ (T46.setTop (mkF m 156 #[.val (.int x1), .val (.int x2), .val (.int x3), .val (.int x4), .val (.ref al), .val (.int (3 : Int32)), .val (.int r), .val (.ref b0), .val (.ref b1), .val (.ref b2), .val (.int (1 : Int32)), .val (.int (1 : Int32)), .val (.int (1 : Int32)), .val (.ref a), .unset, .unset] []))
    refine Go.of (fun _ q => XS.aload X46.here hx rfl (hb hby at_156) rfl rfl q) ?_
    show Go _ _ _ _ _ _ _ (T46.setTop (mkF m 158 #[.val (.int x1), .val (.int x2), .val (.int x3), .val (.int x4), .val (.ref al), .val (.int (3 : Int32)), .val (.int r), .val (.ref b0), .val (.ref b1), .val (.ref b2), .val (.int (1 : Int32)), .val (.int (1 : Int32)), .val (.int (1 : Int32)), .val (.ref a), .unset, .unset] [(.ref a)]))
    refine Go.of (fun _ q => XS.aload X46.here hx rfl (hb hby at_158) rfl rfl q) ?_
    show Go _ _ _ _ _ _ _ (T46.setTop (mkF m 160 #[.val (.int x1), .val (.int x2), .val (.int x3), .val (.int x4), .val (.ref al), .val (.int (3 : Int32)), .val (.int r), .val (.ref b0), .val (.ref b1), .val (.ref b2), .val (.int (1 : Int32)), .val (.int (1 : Int32)), .val (.int (1 : Int32)), .val (.ref a), .unset, .unset] [(.ref b1), (.ref a)]))
    refine Go.of (fun _ q => XS.iloadN X46.here hx rfl (hb hby at_160) rfl q) ?_
    show Go _ _ _ _ _ _ _ (T46.setTop (mkF m 161 #[.val (.int x1), .val (.int x2), .val (.int x3), .val (.int x4), .val (.ref al), .val (.int (3 : Int32)), .val (.int r), .val (.ref b0), .val (.ref b1), .val (.ref b2), .val (.int (1 : Int32)), .val (.int (1 : Int32)), .val (.int (1 : Int32)), .val (.ref a), .unset, .unset] [(.int x2), (.ref b1), (.ref a)]))
    refine Go.virtual X46 hx hZ (y := (⟨"com/example/tundra_ascent/tundraascent/rules/StrictlyMost", "count", "(Lcom/example/tundra_ascent/tundraascent/rules/Animal;I)V"⟩ : MethodName)) (z := (⟨"com/example/tundra_ascent/tundraascent/rules/StrictlyMost", "count", "(Lcom/example/tundra_ascent/tundraascent/rules/Animal;I)V"⟩ : MethodName)) (a := a) (argsL := [(.ref b1), (.int x2)]) hown (hw _ (List.mem_of_getElem? (i := 26) rfl)) (hw _ (List.mem_of_getElem? (i := 27) rfl)) (notFace_of_selects (args := #[]) (mvT hZ (hw _ (List.mem_of_getElem? (i := 29) rfl)))) (hw _ (List.mem_of_getElem? (i := 29) rfl)) (hw _ (List.mem_of_getElem? (i := 28) rfl)) (hw _ (List.mem_of_getElem? (i := 19) rfl)) (hw _ (List.mem_of_getElem? (i := 30) rfl)) (by decide) 0 rfl E_a (rm3 l Z a0 hw a b1 x2 (own_stH x1 (0 : Int32) (.ref b0) .null) (own_stHr rfl rfl) (own_stC x1 (0 : Int32)) (own_stT x1 (0 : Int32) (0 : Int32)) T46.heap n0 Zs E_a F_a_highest F_a_highestCount F_a_tied g_a) (by decide) (by decide) (by decide) (by decide) (g := (mkF m 161 #[.val (.int x1), .val (.int x2), .val (.int x3), .val (.int x4), .val (.ref al), .val (.int (3 : Int32)), .val (.int r), .val (.ref b0), .val (.ref b1), .val (.ref b2), .val (.int (1 : Int32)), .val (.int (1 : Int32)), .val (.int (1 : Int32)), .val (.ref a), .unset, .unset] [(.int x2), (.ref b1), (.ref a)])) rfl (by rw [hml]; rfl) (rest := []) (lenOf pd6 rfl) rfl (by show 2 * 0 + _ ≤ _; exact Nat.le_of_eq rfl) (hb hby at_161) ?_
    intro T47 v47 L47 X47 q47
    obtain ⟨rfl, Nq47, K47, f47_0, f47_1, f47_2, f47_3⟩ := q47
    have N47 := Fr.app N46 Nq47
    have Zs := Nat.le_trans Zs K47.1
    have Kp := Kp.trans K47 (allS (P := fun x => x ∈ [] ∨ h0.size ≤ x) (Or.inr sz_a) all0)
    have Od := Od.keep K47 (allS (P := fun x => n0 ≤ x) g_a all0)
    have E_al := E_al.keep K47
    have A_al := A_al.keep K47 (ninS ne_al_a nin0)
    have E_b0 := E_b0.keep K47
    have E_b1 := E_b1.keep K47
    have E_b2 := E_b2.keep K47
    have E_a := E_a.keep K47
    have F_a_highest := f47_1
    have F_a_highestCount := f47_2
    have F_a_tied := f47_3
    show Go _ _ _ _ _ _ _ (T47.setTop (mkF m 164 #[.val (.int x1), .val (.int x2), .val (.int x3), .val (.int x4), .val (.ref al), .val (.int (3 : Int32)), .val (.int r), .val (.ref b0), .val (.ref b1), .val (.ref b2), .val (.int (1 : Int32)), .val (.int (1 : Int32)), .val (.int (1 : Int32)), .val (.ref a), .unset, .unset] []))
    refine Go.of (fun _ q => XS.iload X47.here hx rfl (hb hby at_164) rfl q) ?_
    show Go _ _ _ _ _ _ _ (T47.setTop (mkF m 166 #[.val (.int x1), .val (.int x2), .val (.int x3), .val (.int x4), .val (.ref al), .val (.int (3 : Int32)), .val (.int r), .val (.ref b0), .val (.ref b1), .val (.ref b2), .val (.int (1 : Int32)), .val (.int (1 : Int32)), .val (.int (1 : Int32)), .val (.ref a), .unset, .unset] [(.int (1 : Int32))]))
    refine Go.of (fun _ q => XS.ifNo X47.here hx rfl (hb hby at_166) rfl ((if0 _ _).trans (feq (by decide)).1) q) ?_
    show Go _ _ _ _ _ _ _ (T47.setTop (mkF m 169 #[.val (.int x1), .val (.int x2), .val (.int x3), .val (.int x4), .val (.ref al), .val (.int (3 : Int32)), .val (.int r), .val (.ref b0), .val (.ref b1), .val (.ref b2), .val (.int (1 : Int32)), .val (.int (1 : Int32)), .val (.int (1 : Int32)), .val (.ref a), .unset, .unset] []))
    refine Go.of (fun _ q => XS.aload X47.here hx rfl (hb hby at_169) rfl rfl q) ?_
    show Go _ _ _ _ _ _ _ (T47.setTop (mkF m 171 #[.val (.int x1), .val (.int x2), .val (.int x3), .val (.int x4), .val (.ref al), .val (.int (3 : Int32)), .val (.int r), .val (.ref b0), .val (.ref b1), .val (.ref b2), .val (.int (1 : Int32)), .val (.int (1 : Int32)), .val (.int (1 : Int32)), .val (.ref a), .unset, .unset] [(.ref a)]))
    refine Go.of (fun _ q => XS.aload X47.here hx rfl (hb hby at_171) rfl rfl q) ?_
    show Go _ _ _ _ _ _ _ (T47.setTop (mkF m 173 #[.val (.int x1), .val (.int x2), .val (.int x3), .val (.int x4), .val (.ref al), .val (.int (3 : Int32)), .val (.int r), .val (.ref b0), .val (.ref b1), .val (.ref b2), .val (.int (1 : Int32)), .val (.int (1 : Int32)), .val (.int (1 : Int32)), .val (.ref a), .unset, .unset] [(.ref b2), (.ref a)]))
    refine Go.of (fun _ q => XS.iloadN X47.here hx rfl (hb hby at_173) rfl q) ?_
    show Go _ _ _ _ _ _ _ (T47.setTop (mkF m 174 #[.val (.int x1), .val (.int x2), .val (.int x3), .val (.int x4), .val (.ref al), .val (.int (3 : Int32)), .val (.int r), .val (.ref b0), .val (.ref b1), .val (.ref b2), .val (.int (1 : Int32)), .val (.int (1 : Int32)), .val (.int (1 : Int32)), .val (.ref a), .unset, .unset] [(.int x3), (.ref b2), (.ref a)]))
    refine Go.virtual X47 hx hZ (y := (⟨"com/example/tundra_ascent/tundraascent/rules/StrictlyMost", "count", "(Lcom/example/tundra_ascent/tundraascent/rules/Animal;I)V"⟩ : MethodName)) (z := (⟨"com/example/tundra_ascent/tundraascent/rules/StrictlyMost", "count", "(Lcom/example/tundra_ascent/tundraascent/rules/Animal;I)V"⟩ : MethodName)) (a := a) (argsL := [(.ref b2), (.int x3)]) hown (hw _ (List.mem_of_getElem? (i := 26) rfl)) (hw _ (List.mem_of_getElem? (i := 27) rfl)) (notFace_of_selects (args := #[]) (mvT hZ (hw _ (List.mem_of_getElem? (i := 29) rfl)))) (hw _ (List.mem_of_getElem? (i := 29) rfl)) (hw _ (List.mem_of_getElem? (i := 28) rfl)) (hw _ (List.mem_of_getElem? (i := 19) rfl)) (hw _ (List.mem_of_getElem? (i := 30) rfl)) (by decide) 0 rfl E_a (rm3 l Z a0 hw a b2 x3 (own_stH x2 (own_stC x1 (0 : Int32)) (.ref b1) (own_stH x1 (0 : Int32) (.ref b0) .null)) (own_stHr rfl (own_stHr rfl rfl)) (own_stC x2 (own_stC x1 (0 : Int32))) (own_stT x2 (own_stC x1 (0 : Int32)) (own_stT x1 (0 : Int32) (0 : Int32))) T47.heap n0 Zs E_a F_a_highest F_a_highestCount F_a_tied g_a) (by decide) (by decide) (by decide) (by decide) (g := (mkF m 174 #[.val (.int x1), .val (.int x2), .val (.int x3), .val (.int x4), .val (.ref al), .val (.int (3 : Int32)), .val (.int r), .val (.ref b0), .val (.ref b1), .val (.ref b2), .val (.int (1 : Int32)), .val (.int (1 : Int32)), .val (.int (1 : Int32)), .val (.ref a), .unset, .unset] [(.int x3), (.ref b2), (.ref a)])) rfl (by rw [hml]; rfl) (rest := []) (lenOf pd6 rfl) rfl (by show 2 * 0 + _ ≤ _; exact Nat.le_of_eq rfl) (hb hby at_174) ?_
    intro T48 v48 L48 X48 q48
    obtain ⟨rfl, Nq48, K48, f48_0, f48_1, f48_2, f48_3⟩ := q48
    have N48 := Fr.app N47 Nq48
    have Zs := Nat.le_trans Zs K48.1
    have Kp := Kp.trans K48 (allS (P := fun x => x ∈ [] ∨ h0.size ≤ x) (Or.inr sz_a) all0)
    have Od := Od.keep K48 (allS (P := fun x => n0 ≤ x) g_a all0)
    have E_al := E_al.keep K48
    have A_al := A_al.keep K48 (ninS ne_al_a nin0)
    have E_b0 := E_b0.keep K48
    have E_b1 := E_b1.keep K48
    have E_b2 := E_b2.keep K48
    have E_a := E_a.keep K48
    have F_a_highest := f48_1
    have F_a_highestCount := f48_2
    have F_a_tied := f48_3
    show Go _ _ _ _ _ _ _ (T48.setTop (mkF m 177 #[.val (.int x1), .val (.int x2), .val (.int x3), .val (.int x4), .val (.ref al), .val (.int (3 : Int32)), .val (.int r), .val (.ref b0), .val (.ref b1), .val (.ref b2), .val (.int (1 : Int32)), .val (.int (1 : Int32)), .val (.int (1 : Int32)), .val (.ref a), .unset, .unset] []))
    refine Go.of (fun _ q => XS.aload X48.here hx rfl (hb hby at_177) rfl rfl q) ?_
    show Go _ _ _ _ _ _ _ (T48.setTop (mkF m 179 #[.val (.int x1), .val (.int x2), .val (.int x3), .val (.int x4), .val (.ref al), .val (.int (3 : Int32)), .val (.int r), .val (.ref b0), .val (.ref b1), .val (.ref b2), .val (.int (1 : Int32)), .val (.int (1 : Int32)), .val (.int (1 : Int32)), .val (.ref a), .unset, .unset] [(.ref a)]))
    refine Go.virtual X48 hx hZ (y := (⟨"com/example/tundra_ascent/tundraascent/rules/StrictlyMost", "animal", "()Ljava/util/Optional;"⟩ : MethodName)) (z := (⟨"com/example/tundra_ascent/tundraascent/rules/StrictlyMost", "animal", "()Ljava/util/Optional;"⟩ : MethodName)) (a := a) (argsL := []) hown (hw _ (List.mem_of_getElem? (i := 35) rfl)) (hw _ (List.mem_of_getElem? (i := 36) rfl)) (notFace_of_selects (args := #[]) (mvT hZ (hw _ (List.mem_of_getElem? (i := 38) rfl)))) (hw _ (List.mem_of_getElem? (i := 38) rfl)) (hw _ (List.mem_of_getElem? (i := 37) rfl)) (hw _ (List.mem_of_getElem? (i := 19) rfl)) (hw _ (List.mem_of_getElem? (i := 39) rfl)) (by decide) 0 rfl E_a (rm4 l Z a0 hw a (own_stH x3 (own_stC x2 (own_stC x1 (0 : Int32))) (.ref b2) (own_stH x2 (own_stC x1 (0 : Int32)) (.ref b1) (own_stH x1 (0 : Int32) (.ref b0) .null))) (own_stHr rfl (own_stHr rfl (own_stHr rfl rfl))) (own_stT x3 (own_stC x2 (own_stC x1 (0 : Int32))) (own_stT x2 (own_stC x1 (0 : Int32)) (own_stT x1 (0 : Int32) (0 : Int32)))) em T48.heap n0 Zs Od F_a_highest F_a_tied Sem Eem Fem) (by decide) (by decide) (by decide) (by decide) (g := (mkF m 179 #[.val (.int x1), .val (.int x2), .val (.int x3), .val (.int x4), .val (.ref al), .val (.int (3 : Int32)), .val (.int r), .val (.ref b0), .val (.ref b1), .val (.ref b2), .val (.int (1 : Int32)), .val (.int (1 : Int32)), .val (.int (1 : Int32)), .val (.ref a), .unset, .unset] [(.ref a)])) rfl (by rw [hml]; rfl) (rest := []) (lenOf pd2 rfl) rfl (by show 2 * 0 + _ ≤ _; exact Nat.le_of_eq rfl) (hb hby at_179) ?_
    intro T49 v49 L49 X49 q49
    obtain ⟨ob1, rfl, Nq49, K49, f49_0, f49_1⟩ := q49
    have N49 := Fr.app N48 Nq49
    have Zs := Nat.le_trans Zs K49.1
    have Kp := Kp.trans K49 all0
    have Od := Od.keep K49 all0
    have E_al := E_al.keep K49
    have A_al := A_al.keep K49 nin0
    have E_b0 := E_b0.keep K49
    have E_b1 := E_b1.keep K49
    have E_b2 := E_b2.keep K49
    have E_a := E_a.keep K49
    have F_a_highest := F_a_highest.keep K49 nin0
    have F_a_highestCount := F_a_highestCount.keep K49 nin0
    have F_a_tied := F_a_tied.keep K49 nin0
    have E_ob1 := f49_0
    have F_ob1_value := f49_1
    show Go _ _ _ _ _ _ _ (T49.setTop (mkF m 182 #[.val (.int x1), .val (.int x2), .val (.int x3), .val (.int x4), .val (.ref al), .val (.int (3 : Int32)), .val (.int r), .val (.ref b0), .val (.ref b1), .val (.ref b2), .val (.int (1 : Int32)), .val (.int (1 : Int32)), .val (.int (1 : Int32)), .val (.ref a), .unset, .unset] [(.ref ob1)]))
    refine Go.of (fun _ q => XS.aconstNull X49.here hx rfl (hb hby at_182) q) ?_
    show Go _ _ _ _ _ _ _ (T49.setTop (mkF m 183 #[.val (.int x1), .val (.int x2), .val (.int x3), .val (.int x4), .val (.ref al), .val (.int (3 : Int32)), .val (.int r), .val (.ref b0), .val (.ref b1), .val (.ref b2), .val (.int (1 : Int32)), .val (.int (1 : Int32)), .val (.int (1 : Int32)), .val (.ref a), .unset, .unset] [.null, (.ref ob1)]))
    refine Go.virtual X49 hx hZ (y := (⟨"java/util/Optional", "orElse", "(Ljava/lang/Object;)Ljava/lang/Object;"⟩ : MethodName)) (z := (⟨"java/util/Optional", "orElse", "(Ljava/lang/Object;)Ljava/lang/Object;"⟩ : MethodName)) (a := ob1) (argsL := [.null]) hown (hw _ (List.mem_of_getElem? (i := 45) rfl)) (hw _ (List.mem_of_getElem? (i := 46) rfl)) (notFace_of_selects (args := #[]) (mvT hZ (hw _ (List.mem_of_getElem? (i := 48) rfl)))) (hw _ (List.mem_of_getElem? (i := 48) rfl)) (hw _ (List.mem_of_getElem? (i := 47) rfl)) (hw _ (List.mem_of_getElem? (i := 42) rfl)) (hw _ (List.mem_of_getElem? (i := 49) rfl)) (by decide) 0 rfl E_ob1 (rm6 l Z a0 hw ob1 (if (own_stT x3 (own_stC x2 (own_stC x1 (0 : Int32))) (own_stT x2 (own_stC x1 (0 : Int32)) (own_stT x1 (0 : Int32) (0 : Int32)))) = (0 : Int32) then (own_stH x3 (own_stC x2 (own_stC x1 (0 : Int32))) (.ref b2) (own_stH x2 (own_stC x1 (0 : Int32)) (.ref b1) (own_stH x1 (0 : Int32) (.ref b0) .null))) else Value.null) (own_iteR (own_stHr rfl (own_stHr rfl (own_stHr rfl rfl)))) T49.heap n0 Zs F_ob1_value) (by decide) (by decide) (by decide) (by decide) (g := (mkF m 183 #[.val (.int x1), .val (.int x2), .val (.int x3), .val (.int x4), .val (.ref al), .val (.int (3 : Int32)), .val (.int r), .val (.ref b0), .val (.ref b1), .val (.ref b2), .val (.int (1 : Int32)), .val (.int (1 : Int32)), .val (.int (1 : Int32)), .val (.ref a), .unset, .unset] [.null, (.ref ob1)])) rfl (by rw [hml]; rfl) (rest := []) (lenOf pd4 rfl) rfl (by show 2 * 0 + _ ≤ _; exact Nat.le_of_eq rfl) (hb hby at_183) ?_
    intro T50 v50 L50 X50 q50
    obtain ⟨rfl, Nq50, e50⟩ := q50
    have N50 := Fr.app N49 Nq50
    obtain ⟨got, hgot⟩ : ∃ z : Value, z = (if (own_stT x3 (own_stC x2 (own_stC x1 (0 : Int32))) (own_stT x2 (own_stC x1 (0 : Int32)) (own_stT x1 (0 : Int32) (0 : Int32)))) = (0 : Int32) then (own_stH x3 (own_stC x2 (own_stC x1 (0 : Int32))) (.ref b2) (own_stH x2 (own_stC x1 (0 : Int32)) (.ref b1) (own_stH x1 (0 : Int32) (.ref b0) .null))) else Value.null) := ⟨_, rfl⟩
    rw [← hgot]
    have rgot : got.isRef = true := by rw [hgot]; exact (own_iteR (own_stHr rfl (own_stHr rfl (own_stHr rfl rfl))))
    show Go _ _ _ _ _ _ _ (T50.setTop (mkF m 186 #[.val (.int x1), .val (.int x2), .val (.int x3), .val (.int x4), .val (.ref al), .val (.int (3 : Int32)), .val (.int r), .val (.ref b0), .val (.ref b1), .val (.ref b2), .val (.int (1 : Int32)), .val (.int (1 : Int32)), .val (.int (1 : Int32)), .val (.ref a), .unset, .unset] [got]))
    obtain ⟨T51, X51, e51, st51⟩ := castV X50 hx hZ hown (hw _ (List.mem_of_getElem? (i := 0) rfl)) e50 (by rw [hgot]; exact own_iteP (own_stHP (Or.inr ⟨_, rfl, Ins.self E_b2⟩) (own_stHP (Or.inr ⟨_, rfl, Ins.self E_b1⟩) (own_stHP (Or.inr ⟨_, rfl, Ins.self E_b0⟩) (Or.inl rfl))))) (g := (mkF m 186 #[.val (.int x1), .val (.int x2), .val (.int x3), .val (.int x4), .val (.ref al), .val (.int (3 : Int32)), .val (.int r), .val (.ref b0), .val (.ref b1), .val (.ref b2), .val (.int (1 : Int32)), .val (.int (1 : Int32)), .val (.int (1 : Int32)), .val (.ref a), .unset, .unset] [got])) rfl rfl (hb hby at_186)
    refine Go.of st51 ?_
    show Go _ _ _ _ _ _ _ (T51.setTop (mkF m 189 #[.val (.int x1), .val (.int x2), .val (.int x3), .val (.int x4), .val (.ref al), .val (.int (3 : Int32)), .val (.int r), .val (.ref b0), .val (.ref b1), .val (.ref b2), .val (.int (1 : Int32)), .val (.int (1 : Int32)), .val (.int (1 : Int32)), .val (.ref a), .unset, .unset] [got]))
    refine Go.of (fun _ q => XS.astore X51.here hx rfl (hb hby at_189) rfl rgot (l' := #[.val (.int x1), .val (.int x2), .val (.int x3), .val (.int x4), .val (.ref al), .val (.int (3 : Int32)), .val (.int r), .val (.ref b0), .val (.ref b1), .val (.ref b2), .val (.int (1 : Int32)), .val (.int (1 : Int32)), .val (.int (1 : Int32)), .val (.ref a), .val got, .unset]) (by first | rfl | (cases got <;> first | rfl | (simp [Value.isRef] at rgot; done))) q) ?_
    show Go _ _ _ _ _ _ _ (T51.setTop (mkF m 191 #[.val (.int x1), .val (.int x2), .val (.int x3), .val (.int x4), .val (.ref al), .val (.int (3 : Int32)), .val (.int r), .val (.ref b0), .val (.ref b1), .val (.ref b2), .val (.int (1 : Int32)), .val (.int (1 : Int32)), .val (.int (1 : Int32)), .val (.ref a), .val got, .unset] []))
    refine Go.of (fun _ q => XS.aconstNull X51.here hx rfl (hb hby at_191) q) ?_
    show Go _ _ _ _ _ _ _ (T51.setTop (mkF m 192 #[.val (.int x1), .val (.int x2), .val (.int x3), .val (.int x4), .val (.ref al), .val (.int (3 : Int32)), .val (.int r), .val (.ref b0), .val (.ref b1), .val (.ref b2), .val (.int (1 : Int32)), .val (.int (1 : Int32)), .val (.int (1 : Int32)), .val (.ref a), .val got, .unset] [.null]))
    refine Go.of (fun _ q => XS.astore X51.here hx rfl (hb hby at_192) rfl rfl (l' := #[.val (.int x1), .val (.int x2), .val (.int x3), .val (.int x4), .val (.ref al), .val (.int (3 : Int32)), .val (.int r), .val (.ref b0), .val (.ref b1), .val (.ref b2), .val (.int (1 : Int32)), .val (.int (1 : Int32)), .val (.int (1 : Int32)), .val (.ref a), .val got, .val .null]) rfl q) ?_
    show Go _ _ _ _ _ _ _ (T51.setTop (mkF m 194 #[.val (.int x1), .val (.int x2), .val (.int x3), .val (.int x4), .val (.ref al), .val (.int (3 : Int32)), .val (.int r), .val (.ref b0), .val (.ref b1), .val (.ref b2), .val (.int (1 : Int32)), .val (.int (1 : Int32)), .val (.int (1 : Int32)), .val (.ref a), .val got, .val .null] []))
    refine Go.of (fun _ q => XS.iload X51.here hx rfl (hb hby at_194) rfl q) ?_
    show Go _ _ _ _ _ _ _ (T51.setTop (mkF m 196 #[.val (.int x1), .val (.int x2), .val (.int x3), .val (.int x4), .val (.ref al), .val (.int (3 : Int32)), .val (.int r), .val (.ref b0), .val (.ref b1), .val (.ref b2), .val (.int (1 : Int32)), .val (.int (1 : Int32)), .val (.int (1 : Int32)), .val (.ref a), .val got, .val .null] [(.int (1 : Int32))]))
    refine Go.of (fun _ q => XS.iloadN X51.here hx rfl (hb hby at_196) rfl q) ?_
    show Go _ _ _ _ _ _ _ (T51.setTop (mkF m 197 #[.val (.int x1), .val (.int x2), .val (.int x3), .val (.int x4), .val (.ref al), .val (.int (3 : Int32)), .val (.int r), .val (.ref b0), .val (.ref b1), .val (.ref b2), .val (.int (1 : Int32)), .val (.int (1 : Int32)), .val (.int (1 : Int32)), .val (.ref a), .val got, .val .null] [(.int x1), (.int (1 : Int32))]))
    refine Go.of (fun _ q => XS.iload X51.here hx rfl (hb hby at_197) rfl q) ?_
    show Go _ _ _ _ _ _ _ (T51.setTop (mkF m 199 #[.val (.int x1), .val (.int x2), .val (.int x3), .val (.int x4), .val (.ref al), .val (.int (3 : Int32)), .val (.int r), .val (.ref b0), .val (.ref b1), .val (.ref b2), .val (.int (1 : Int32)), .val (.int (1 : Int32)), .val (.int (1 : Int32)), .val (.ref a), .val got, .val .null] [(.int (1 : Int32)), (.int x1), (.int (1 : Int32))]))
    refine Go.of (fun _ q => XS.iloadN X51.here hx rfl (hb hby at_199) rfl q) ?_
    show Go _ _ _ _ _ _ _ (T51.setTop (mkF m 200 #[.val (.int x1), .val (.int x2), .val (.int x3), .val (.int x4), .val (.ref al), .val (.int (3 : Int32)), .val (.int r), .val (.ref b0), .val (.ref b1), .val (.ref b2), .val (.int (1 : Int32)), .val (.int (1 : Int32)), .val (.int (1 : Int32)), .val (.ref a), .val got, .val .null] [(.int x2), (.int (1 : Int32)), (.int x1), (.int (1 : Int32))]))
    refine Go.of (fun _ q => XS.iload X51.here hx rfl (hb hby at_200) rfl q) ?_
    show Go _ _ _ _ _ _ _ (T51.setTop (mkF m 202 #[.val (.int x1), .val (.int x2), .val (.int x3), .val (.int x4), .val (.ref al), .val (.int (3 : Int32)), .val (.int r), .val (.ref b0), .val (.ref b1), .val (.ref b2), .val (.int (1 : Int32)), .val (.int (1 : Int32)), .val (.int (1 : Int32)), .val (.ref a), .val got, .val .null] [(.int (1 : Int32)), (.int x2), (.int (1 : Int32)), (.int x1), (.int (1 : Int32))]))
    refine Go.of (fun _ q => XS.iloadN X51.here hx rfl (hb hby at_202) rfl q) ?_
    show Go _ _ _ _ _ _ _ (T51.setTop (mkF m 203 #[.val (.int x1), .val (.int x2), .val (.int x3), .val (.int x4), .val (.ref al), .val (.int (3 : Int32)), .val (.int r), .val (.ref b0), .val (.ref b1), .val (.ref b2), .val (.int (1 : Int32)), .val (.int (1 : Int32)), .val (.int (1 : Int32)), .val (.ref a), .val got, .val .null] [(.int x3), (.int (1 : Int32)), (.int x2), (.int (1 : Int32)), (.int x1), (.int (1 : Int32))]))
    refine Go.static X51 hx hZ (y := (⟨"com/example/tundra_ascent/tundraascent/rules/StrictlyMostCountPinLaw", "wins", "(ZIZIZI)Z"⟩ : MethodName)) (argsL := [(.int (1 : Int32)), (.int x1), (.int (1 : Int32)), (.int x2), (.int (1 : Int32)), (.int x3)]) hown (hw _ (List.mem_of_getElem? (i := 52) rfl)) (hw _ (List.mem_of_getElem? (i := 53) rfl)) (hw _ (List.mem_of_getElem? (i := 54) rfl)) (hw _ (List.mem_of_getElem? (i := 55) rfl)) (by decide) 0 e51 (rm7 l Z a0 hw (1 : Int32) x1 (1 : Int32) x2 (1 : Int32) x3 T49.heap n0 Zs ) (by decide) (by decide) (by decide) (by decide) (g := (mkF m 203 #[.val (.int x1), .val (.int x2), .val (.int x3), .val (.int x4), .val (.ref al), .val (.int (3 : Int32)), .val (.int r), .val (.ref b0), .val (.ref b1), .val (.ref b2), .val (.int (1 : Int32)), .val (.int (1 : Int32)), .val (.int (1 : Int32)), .val (.ref a), .val got, .val .null] [(.int x3), (.int (1 : Int32)), (.int x2), (.int (1 : Int32)), (.int x1), (.int (1 : Int32))])) rfl (by rw [hml]; rfl) (rest := []) (lenOf pd5 rfl) rfl (by show 2 * 0 + _ ≤ _; exact Nat.le_of_eq rfl) (hb hby at_203) ?_
    intro T52 v52 L52 X52 q52
    obtain ⟨rfl, Nq52, e52⟩ := q52
    have N52 := Fr.app N50 Nq52
    show Go _ _ _ _ _ _ _ (T52.setTop (mkF m 206 #[.val (.int x1), .val (.int x2), .val (.int x3), .val (.int x4), .val (.ref al), .val (.int (3 : Int32)), .val (.int r), .val (.ref b0), .val (.ref b1), .val (.ref b2), .val (.int (1 : Int32)), .val (.int (1 : Int32)), .val (.int (1 : Int32)), .val (.ref a), .val got, .val .null] [(.int (own_w (1 : Int32) x1 (1 : Int32) x2 (1 : Int32) x3))]))
    have J55 : ∀ (TJ55 : State) (lJ55 : List Loc) (zJ55_0 : Value), Stand p l e room_1 s m #[(.int x1), (.int x2), (.int x3), (.int x4)] below meth c TJ55 lJ55 3 10 → TJ55.heap = T49.heap → Fr n0 lJ55 → zJ55_0 = ((if (own_w (1 : Int32) x1 (1 : Int32) x2 (1 : Int32) x3) = (0 : Int32) then (if (own_w (1 : Int32) x2 (1 : Int32) x1 (1 : Int32) x3) = (0 : Int32) then (if (own_w (1 : Int32) x3 (1 : Int32) x1 (1 : Int32) x2) = (0 : Int32) then .null else (.ref b2)) else (.ref b1)) else (.ref b0)) : Value) → zJ55_0.isRef = true → Go p e below s room_1.cells room_1.slots (Q0 Z x1 x2 x3 x4 o0 o1 o2 o3 o4 o5 em h0 n0) (TJ55.setTop (mkF m 257 #[.val (.int x1), .val (.int x2), .val (.int x3), .val (.int x4), .val (.ref al), .val (.int (3 : Int32)), .val (.int r), .val (.ref b0), .val (.ref b1), .val (.ref b2), .val (.int (1 : Int32)), .val (.int (1 : Int32)), .val (.int (1 : Int32)), .val (.ref a), .val got, .val zJ55_0] [])) := by
      intro TJ55 lJ55 zJ55_0 XJ55 eJ55 NJ55 hzJ55_0 rzJ55_0
      show Go _ _ _ _ _ _ _ (TJ55.setTop (mkF m 257 #[.val (.int x1), .val (.int x2), .val (.int x3), .val (.int x4), .val (.ref al), .val (.int (3 : Int32)), .val (.int r), .val (.ref b0), .val (.ref b1), .val (.ref b2), .val (.int (1 : Int32)), .val (.int (1 : Int32)), .val (.int (1 : Int32)), .val (.ref a), .val got, .val zJ55_0] []))
      refine Go.of (fun _ q => XS.aload XJ55.here hx rfl (hb hby at_257) rfl rgot q) ?_
      show Go _ _ _ _ _ _ _ (TJ55.setTop (mkF m 259 #[.val (.int x1), .val (.int x2), .val (.int x3), .val (.int x4), .val (.ref al), .val (.int (3 : Int32)), .val (.int r), .val (.ref b0), .val (.ref b1), .val (.ref b2), .val (.int (1 : Int32)), .val (.int (1 : Int32)), .val (.int (1 : Int32)), .val (.ref a), .val got, .val zJ55_0] [got]))
      refine Go.of (fun _ q => XS.aload XJ55.here hx rfl (hb hby at_259) rfl rzJ55_0 q) ?_
      show Go _ _ _ _ _ _ _ (TJ55.setTop (mkF m 261 #[.val (.int x1), .val (.int x2), .val (.int x3), .val (.int x4), .val (.ref al), .val (.int (3 : Int32)), .val (.int r), .val (.ref b0), .val (.ref b1), .val (.ref b2), .val (.int (1 : Int32)), .val (.int (1 : Int32)), .val (.int (1 : Int32)), .val (.ref a), .val got, .val zJ55_0] [zJ55_0, got]))
      refine Go.of (fun _ q => Jvm.RoadKit.acmp (g := (mkF m 261 #[.val (.int x1), .val (.int x2), .val (.int x3), .val (.int x4), .val (.ref al), .val (.int (3 : Int32)), .val (.int r), .val (.ref b0), .val (.ref b1), .val (.ref b2), .val (.int (1 : Int32)), .val (.int (1 : Int32)), .val (.int (1 : Int32)), .val (.ref a), .val got, .val zJ55_0] [zJ55_0, got])) XJ55 hx rfl rgot rzJ55_0 (pc0 := 261) (pc' := 264) (same := true) rfl (hb hby at_261) rfl (decide_eq_true (by rw [hgot, hzJ55_0]; exact own_p3 x1 x2 x3 b0 b1 b2)) (by decide) (by decide) q) ?_
      show Go _ _ _ _ _ _ _ (TJ55.setTop (mkF m 264 #[.val (.int x1), .val (.int x2), .val (.int x3), .val (.int x4), .val (.ref al), .val (.int (3 : Int32)), .val (.int r), .val (.ref b0), .val (.ref b1), .val (.ref b2), .val (.int (1 : Int32)), .val (.int (1 : Int32)), .val (.int (1 : Int32)), .val (.ref a), .val got, .val zJ55_0] []))
      refine Go.of (fun _ q => XS.iconst XJ55.here hx rfl (hb hby at_264) q) ?_
      show Go _ _ _ _ _ _ _ (TJ55.setTop (mkF m 265 #[.val (.int x1), .val (.int x2), .val (.int x3), .val (.int x4), .val (.ref al), .val (.int (3 : Int32)), .val (.int r), .val (.ref b0), .val (.ref b1), .val (.ref b2), .val (.int (1 : Int32)), .val (.int (1 : Int32)), .val (.int (1 : Int32)), .val (.ref a), .val got, .val zJ55_0] [(.int (1 : Int32))]))
      refine Go.of (fun _ q => XS.goto XJ55.here hx rfl (pc0 := 265) (pc' := 269) rfl (hb hby at_265) (by decide) (by decide) q) ?_
      show Go _ _ _ _ _ _ _ (TJ55.setTop (mkF m 269 #[.val (.int x1), .val (.int x2), .val (.int x3), .val (.int x4), .val (.ref al), .val (.int (3 : Int32)), .val (.int r), .val (.ref b0), .val (.ref b1), .val (.ref b2), .val (.int (1 : Int32)), .val (.int (1 : Int32)), .val (.int (1 : Int32)), .val (.ref a), .val got, .val zJ55_0] [(.int (1 : Int32))]))
      refine Go.retN XJ55 hx hlk (t := .boolean) hret (by simp) (hb hby at_269) rfl (by decide) (by decide) ?_
      rw [eJ55]
      exact ⟨rfl, NJ55⟩
    by_cases c206 : (own_w (1 : Int32) x1 (1 : Int32) x2 (1 : Int32) x3) = (0 : Int32)
    · refine Go.of (fun _ q => XS.ifYes X52.here hx rfl (pc0 := 206) (pc' := 216) rfl (hb hby at_206) rfl ((if0 _ _).trans (teq c206).1) (by decide) (by decide) q) ?_
      show Go _ _ _ _ _ _ _ (T52.setTop (mkF m 216 #[.val (.int x1), .val (.int x2), .val (.int x3), .val (.int x4), .val (.ref al), .val (.int (3 : Int32)), .val (.int r), .val (.ref b0), .val (.ref b1), .val (.ref b2), .val (.int (1 : Int32)), .val (.int (1 : Int32)), .val (.int (1 : Int32)), .val (.ref a), .val got, .val .null] []))
      refine Go.of (fun _ q => XS.iload X52.here hx rfl (hb hby at_216) rfl q) ?_
      show Go _ _ _ _ _ _ _ (T52.setTop (mkF m 218 #[.val (.int x1), .val (.int x2), .val (.int x3), .val (.int x4), .val (.ref al), .val (.int (3 : Int32)), .val (.int r), .val (.ref b0), .val (.ref b1), .val (.ref b2), .val (.int (1 : Int32)), .val (.int (1 : Int32)), .val (.int (1 : Int32)), .val (.ref a), .val got, .val .null] [(.int (1 : Int32))]))
      refine Go.of (fun _ q => XS.iloadN X52.here hx rfl (hb hby at_218) rfl q) ?_
      show Go _ _ _ _ _ _ _ (T52.setTop (mkF m 219 #[.val (.int x1), .val (.int x2), .val (.int x3), .val (.int x4), .val (.ref al), .val (.int (3 : Int32)), .val (.int r), .val (.ref b0), .val (.ref b1), .val (.ref b2), .val (.int (1 : Int32)), .val (.int (1 : Int32)), .val (.int (1 : Int32)), .val (.ref a), .val got, .val .null] [(.int x2), (.int (1 : Int32))]))
      refine Go.of (fun _ q => XS.iload X52.here hx rfl (hb hby at_219) rfl q) ?_
      show Go _ _ _ _ _ _ _ (T52.setTop (mkF m 221 #[.val (.int x1), .val (.int x2), .val (.int x3), .val (.int x4), .val (.ref al), .val (.int (3 : Int32)), .val (.int r), .val (.ref b0), .val (.ref b1), .val (.ref b2), .val (.int (1 : Int32)), .val (.int (1 : Int32)), .val (.int (1 : Int32)), .val (.ref a), .val got, .val .null] [(.int (1 : Int32)), (.int x2), (.int (1 : Int32))]))
      refine Go.of (fun _ q => XS.iloadN X52.here hx rfl (hb hby at_221) rfl q) ?_
      show Go _ _ _ _ _ _ _ (T52.setTop (mkF m 222 #[.val (.int x1), .val (.int x2), .val (.int x3), .val (.int x4), .val (.ref al), .val (.int (3 : Int32)), .val (.int r), .val (.ref b0), .val (.ref b1), .val (.ref b2), .val (.int (1 : Int32)), .val (.int (1 : Int32)), .val (.int (1 : Int32)), .val (.ref a), .val got, .val .null] [(.int x1), (.int (1 : Int32)), (.int x2), (.int (1 : Int32))]))
      refine Go.of (fun _ q => XS.iload X52.here hx rfl (hb hby at_222) rfl q) ?_
      show Go _ _ _ _ _ _ _ (T52.setTop (mkF m 224 #[.val (.int x1), .val (.int x2), .val (.int x3), .val (.int x4), .val (.ref al), .val (.int (3 : Int32)), .val (.int r), .val (.ref b0), .val (.ref b1), .val (.ref b2), .val (.int (1 : Int32)), .val (.int (1 : Int32)), .val (.int (1 : Int32)), .val (.ref a), .val got, .val .null] [(.int (1 : Int32)), (.int x1), (.int (1 : Int32)), (.int x2), (.int (1 : Int32))]))
      refine Go.of (fun _ q => XS.iloadN X52.here hx rfl (hb hby at_224) rfl q) ?_
      show Go _ _ _ _ _ _ _ (T52.setTop (mkF m 225 #[.val (.int x1), .val (.int x2), .val (.int x3), .val (.int x4), .val (.ref al), .val (.int (3 : Int32)), .val (.int r), .val (.ref b0), .val (.ref b1), .val (.ref b2), .val (.int (1 : Int32)), .val (.int (1 : Int32)), .val (.int (1 : Int32)), .val (.ref a), .val got, .val .null] [(.int x3), (.int (1 : Int32)), (.int x1), (.int (1 : Int32)), (.int x2), (.int (1 : Int32))]))
      refine Go.static X52 hx hZ (y := (⟨"com/example/tundra_ascent/tundraascent/rules/StrictlyMostCountPinLaw", "wins", "(ZIZIZI)Z"⟩ : MethodName)) (argsL := [(.int (1 : Int32)), (.int x2), (.int (1 : Int32)), (.int x1), (.int (1 : Int32)), (.int x3)]) hown (hw _ (List.mem_of_getElem? (i := 52) rfl)) (hw _ (List.mem_of_getElem? (i := 53) rfl)) (hw _ (List.mem_of_getElem? (i := 54) rfl)) (hw _ (List.mem_of_getElem? (i := 55) rfl)) (by decide) 0 e52 (rm7 l Z a0 hw (1 : Int32) x2 (1 : Int32) x1 (1 : Int32) x3 T49.heap n0 Zs ) (by decide) (by decide) (by decide) (by decide) (g := (mkF m 225 #[.val (.int x1), .val (.int x2), .val (.int x3), .val (.int x4), .val (.ref al), .val (.int (3 : Int32)), .val (.int r), .val (.ref b0), .val (.ref b1), .val (.ref b2), .val (.int (1 : Int32)), .val (.int (1 : Int32)), .val (.int (1 : Int32)), .val (.ref a), .val got, .val .null] [(.int x3), (.int (1 : Int32)), (.int x1), (.int (1 : Int32)), (.int x2), (.int (1 : Int32))])) rfl (by rw [hml]; rfl) (rest := []) (lenOf pd5 rfl) rfl (by show 2 * 0 + _ ≤ _; exact Nat.le_of_eq rfl) (hb hby at_225) ?_
      intro T53 v53 L53 X53 q53
      obtain ⟨rfl, Nq53, e53⟩ := q53
      have N53 := Fr.app N52 Nq53
      show Go _ _ _ _ _ _ _ (T53.setTop (mkF m 228 #[.val (.int x1), .val (.int x2), .val (.int x3), .val (.int x4), .val (.ref al), .val (.int (3 : Int32)), .val (.int r), .val (.ref b0), .val (.ref b1), .val (.ref b2), .val (.int (1 : Int32)), .val (.int (1 : Int32)), .val (.int (1 : Int32)), .val (.ref a), .val got, .val .null] [(.int (own_w (1 : Int32) x2 (1 : Int32) x1 (1 : Int32) x3))]))
      by_cases c228 : (own_w (1 : Int32) x2 (1 : Int32) x1 (1 : Int32) x3) = (0 : Int32)
      · refine Go.of (fun _ q => XS.ifYes X53.here hx rfl (pc0 := 228) (pc' := 238) rfl (hb hby at_228) rfl ((if0 _ _).trans (teq c228).1) (by decide) (by decide) q) ?_
        show Go _ _ _ _ _ _ _ (T53.setTop (mkF m 238 #[.val (.int x1), .val (.int x2), .val (.int x3), .val (.int x4), .val (.ref al), .val (.int (3 : Int32)), .val (.int r), .val (.ref b0), .val (.ref b1), .val (.ref b2), .val (.int (1 : Int32)), .val (.int (1 : Int32)), .val (.int (1 : Int32)), .val (.ref a), .val got, .val .null] []))
        refine Go.of (fun _ q => XS.iload X53.here hx rfl (hb hby at_238) rfl q) ?_
        show Go _ _ _ _ _ _ _ (T53.setTop (mkF m 240 #[.val (.int x1), .val (.int x2), .val (.int x3), .val (.int x4), .val (.ref al), .val (.int (3 : Int32)), .val (.int r), .val (.ref b0), .val (.ref b1), .val (.ref b2), .val (.int (1 : Int32)), .val (.int (1 : Int32)), .val (.int (1 : Int32)), .val (.ref a), .val got, .val .null] [(.int (1 : Int32))]))
        refine Go.of (fun _ q => XS.iloadN X53.here hx rfl (hb hby at_240) rfl q) ?_
        show Go _ _ _ _ _ _ _ (T53.setTop (mkF m 241 #[.val (.int x1), .val (.int x2), .val (.int x3), .val (.int x4), .val (.ref al), .val (.int (3 : Int32)), .val (.int r), .val (.ref b0), .val (.ref b1), .val (.ref b2), .val (.int (1 : Int32)), .val (.int (1 : Int32)), .val (.int (1 : Int32)), .val (.ref a), .val got, .val .null] [(.int x3), (.int (1 : Int32))]))
        refine Go.of (fun _ q => XS.iload X53.here hx rfl (hb hby at_241) rfl q) ?_
        show Go _ _ _ _ _ _ _ (T53.setTop (mkF m 243 #[.val (.int x1), .val (.int x2), .val (.int x3), .val (.int x4), .val (.ref al), .val (.int (3 : Int32)), .val (.int r), .val (.ref b0), .val (.ref b1), .val (.ref b2), .val (.int (1 : Int32)), .val (.int (1 : Int32)), .val (.int (1 : Int32)), .val (.ref a), .val got, .val .null] [(.int (1 : Int32)), (.int x3), (.int (1 : Int32))]))
        refine Go.of (fun _ q => XS.iloadN X53.here hx rfl (hb hby at_243) rfl q) ?_
        show Go _ _ _ _ _ _ _ (T53.setTop (mkF m 244 #[.val (.int x1), .val (.int x2), .val (.int x3), .val (.int x4), .val (.ref al), .val (.int (3 : Int32)), .val (.int r), .val (.ref b0), .val (.ref b1), .val (.ref b2), .val (.int (1 : Int32)), .val (.int (1 : Int32)), .val (.int (1 : Int32)), .val (.ref a), .val got, .val .null] [(.int x1), (.int (1 : Int32)), (.int x3), (.int (1 : Int32))]))
        refine Go.of (fun _ q => XS.iload X53.here hx rfl (hb hby at_244) rfl q) ?_
        show Go _ _ _ _ _ _ _ (T53.setTop (mkF m 246 #[.val (.int x1), .val (.int x2), .val (.int x3), .val (.int x4), .val (.ref al), .val (.int (3 : Int32)), .val (.int r), .val (.ref b0), .val (.ref b1), .val (.ref b2), .val (.int (1 : Int32)), .val (.int (1 : Int32)), .val (.int (1 : Int32)), .val (.ref a), .val got, .val .null] [(.int (1 : Int32)), (.int x1), (.int (1 : Int32)), (.int x3), (.int (1 : Int32))]))
        refine Go.of (fun _ q => XS.iloadN X53.here hx rfl (hb hby at_246) rfl q) ?_
        show Go _ _ _ _ _ _ _ (T53.setTop (mkF m 247 #[.val (.int x1), .val (.int x2), .val (.int x3), .val (.int x4), .val (.ref al), .val (.int (3 : Int32)), .val (.int r), .val (.ref b0), .val (.ref b1), .val (.ref b2), .val (.int (1 : Int32)), .val (.int (1 : Int32)), .val (.int (1 : Int32)), .val (.ref a), .val got, .val .null] [(.int x2), (.int (1 : Int32)), (.int x1), (.int (1 : Int32)), (.int x3), (.int (1 : Int32))]))
        refine Go.static X53 hx hZ (y := (⟨"com/example/tundra_ascent/tundraascent/rules/StrictlyMostCountPinLaw", "wins", "(ZIZIZI)Z"⟩ : MethodName)) (argsL := [(.int (1 : Int32)), (.int x3), (.int (1 : Int32)), (.int x1), (.int (1 : Int32)), (.int x2)]) hown (hw _ (List.mem_of_getElem? (i := 52) rfl)) (hw _ (List.mem_of_getElem? (i := 53) rfl)) (hw _ (List.mem_of_getElem? (i := 54) rfl)) (hw _ (List.mem_of_getElem? (i := 55) rfl)) (by decide) 0 e53 (rm7 l Z a0 hw (1 : Int32) x3 (1 : Int32) x1 (1 : Int32) x2 T49.heap n0 Zs ) (by decide) (by decide) (by decide) (by decide) (g := (mkF m 247 #[.val (.int x1), .val (.int x2), .val (.int x3), .val (.int x4), .val (.ref al), .val (.int (3 : Int32)), .val (.int r), .val (.ref b0), .val (.ref b1), .val (.ref b2), .val (.int (1 : Int32)), .val (.int (1 : Int32)), .val (.int (1 : Int32)), .val (.ref a), .val got, .val .null] [(.int x2), (.int (1 : Int32)), (.int x1), (.int (1 : Int32)), (.int x3), (.int (1 : Int32))])) rfl (by rw [hml]; rfl) (rest := []) (lenOf pd5 rfl) rfl (by show 2 * 0 + _ ≤ _; exact Nat.le_of_eq rfl) (hb hby at_247) ?_
        intro T54 v54 L54 X54 q54
        obtain ⟨rfl, Nq54, e54⟩ := q54
        have N54 := Fr.app N53 Nq54
        show Go _ _ _ _ _ _ _ (T54.setTop (mkF m 250 #[.val (.int x1), .val (.int x2), .val (.int x3), .val (.int x4), .val (.ref al), .val (.int (3 : Int32)), .val (.int r), .val (.ref b0), .val (.ref b1), .val (.ref b2), .val (.int (1 : Int32)), .val (.int (1 : Int32)), .val (.int (1 : Int32)), .val (.ref a), .val got, .val .null] [(.int (own_w (1 : Int32) x3 (1 : Int32) x1 (1 : Int32) x2))]))
        by_cases c250 : (own_w (1 : Int32) x3 (1 : Int32) x1 (1 : Int32) x2) = (0 : Int32)
        · refine Go.of (fun _ q => XS.ifYes X54.here hx rfl (pc0 := 250) (pc' := 257) rfl (hb hby at_250) rfl ((if0 _ _).trans (teq c250).1) (by decide) (by decide) q) ?_
          show Go _ _ _ _ _ _ _ (T54.setTop (mkF m 257 #[.val (.int x1), .val (.int x2), .val (.int x3), .val (.int x4), .val (.ref al), .val (.int (3 : Int32)), .val (.int r), .val (.ref b0), .val (.ref b1), .val (.ref b2), .val (.int (1 : Int32)), .val (.int (1 : Int32)), .val (.int (1 : Int32)), .val (.ref a), .val got, .val .null] []))
          exact J55 T54 _ _ (pad X54 (by decide) (by decide)) e54 N54 (by rw [if_pos c206, if_pos c228, if_pos c250]) rfl
        · refine Go.of (fun _ q => XS.ifNo X54.here hx rfl (hb hby at_250) rfl ((if0 _ _).trans (feq c250).1) q) ?_
          show Go _ _ _ _ _ _ _ (T54.setTop (mkF m 253 #[.val (.int x1), .val (.int x2), .val (.int x3), .val (.int x4), .val (.ref al), .val (.int (3 : Int32)), .val (.int r), .val (.ref b0), .val (.ref b1), .val (.ref b2), .val (.int (1 : Int32)), .val (.int (1 : Int32)), .val (.int (1 : Int32)), .val (.ref a), .val got, .val .null] []))
          refine Go.of (fun _ q => XS.aload X54.here hx rfl (hb hby at_253) rfl rfl q) ?_
          show Go _ _ _ _ _ _ _ (T54.setTop (mkF m 255 #[.val (.int x1), .val (.int x2), .val (.int x3), .val (.int x4), .val (.ref al), .val (.int (3 : Int32)), .val (.int r), .val (.ref b0), .val (.ref b1), .val (.ref b2), .val (.int (1 : Int32)), .val (.int (1 : Int32)), .val (.int (1 : Int32)), .val (.ref a), .val got, .val .null] [(.ref b2)]))
          refine Go.of (fun _ q => XS.astore X54.here hx rfl (hb hby at_255) rfl rfl (l' := #[.val (.int x1), .val (.int x2), .val (.int x3), .val (.int x4), .val (.ref al), .val (.int (3 : Int32)), .val (.int r), .val (.ref b0), .val (.ref b1), .val (.ref b2), .val (.int (1 : Int32)), .val (.int (1 : Int32)), .val (.int (1 : Int32)), .val (.ref a), .val got, .val (.ref b2)]) rfl q) ?_
          show Go _ _ _ _ _ _ _ (T54.setTop (mkF m 257 #[.val (.int x1), .val (.int x2), .val (.int x3), .val (.int x4), .val (.ref al), .val (.int (3 : Int32)), .val (.int r), .val (.ref b0), .val (.ref b1), .val (.ref b2), .val (.int (1 : Int32)), .val (.int (1 : Int32)), .val (.int (1 : Int32)), .val (.ref a), .val got, .val (.ref b2)] []))
          exact J55 T54 _ _ (pad X54 (by decide) (by decide)) e54 N54 (by rw [if_pos c206, if_pos c228, if_neg c250]) rfl
      · refine Go.of (fun _ q => XS.ifNo X53.here hx rfl (hb hby at_228) rfl ((if0 _ _).trans (feq c228).1) q) ?_
        show Go _ _ _ _ _ _ _ (T53.setTop (mkF m 231 #[.val (.int x1), .val (.int x2), .val (.int x3), .val (.int x4), .val (.ref al), .val (.int (3 : Int32)), .val (.int r), .val (.ref b0), .val (.ref b1), .val (.ref b2), .val (.int (1 : Int32)), .val (.int (1 : Int32)), .val (.int (1 : Int32)), .val (.ref a), .val got, .val .null] []))
        refine Go.of (fun _ q => XS.aload X53.here hx rfl (hb hby at_231) rfl rfl q) ?_
        show Go _ _ _ _ _ _ _ (T53.setTop (mkF m 233 #[.val (.int x1), .val (.int x2), .val (.int x3), .val (.int x4), .val (.ref al), .val (.int (3 : Int32)), .val (.int r), .val (.ref b0), .val (.ref b1), .val (.ref b2), .val (.int (1 : Int32)), .val (.int (1 : Int32)), .val (.int (1 : Int32)), .val (.ref a), .val got, .val .null] [(.ref b1)]))
        refine Go.of (fun _ q => XS.astore X53.here hx rfl (hb hby at_233) rfl rfl (l' := #[.val (.int x1), .val (.int x2), .val (.int x3), .val (.int x4), .val (.ref al), .val (.int (3 : Int32)), .val (.int r), .val (.ref b0), .val (.ref b1), .val (.ref b2), .val (.int (1 : Int32)), .val (.int (1 : Int32)), .val (.int (1 : Int32)), .val (.ref a), .val got, .val (.ref b1)]) rfl q) ?_
        show Go _ _ _ _ _ _ _ (T53.setTop (mkF m 235 #[.val (.int x1), .val (.int x2), .val (.int x3), .val (.int x4), .val (.ref al), .val (.int (3 : Int32)), .val (.int r), .val (.ref b0), .val (.ref b1), .val (.ref b2), .val (.int (1 : Int32)), .val (.int (1 : Int32)), .val (.int (1 : Int32)), .val (.ref a), .val got, .val (.ref b1)] []))
        refine Go.of (fun _ q => XS.goto X53.here hx rfl (pc0 := 235) (pc' := 257) rfl (hb hby at_235) (by decide) (by decide) q) ?_
        show Go _ _ _ _ _ _ _ (T53.setTop (mkF m 257 #[.val (.int x1), .val (.int x2), .val (.int x3), .val (.int x4), .val (.ref al), .val (.int (3 : Int32)), .val (.int r), .val (.ref b0), .val (.ref b1), .val (.ref b2), .val (.int (1 : Int32)), .val (.int (1 : Int32)), .val (.int (1 : Int32)), .val (.ref a), .val got, .val (.ref b1)] []))
        exact J55 T53 _ _ (pad X53 (by decide) (by decide)) e53 N53 (by rw [if_pos c206, if_neg c228]) rfl
    · refine Go.of (fun _ q => XS.ifNo X52.here hx rfl (hb hby at_206) rfl ((if0 _ _).trans (feq c206).1) q) ?_
      show Go _ _ _ _ _ _ _ (T52.setTop (mkF m 209 #[.val (.int x1), .val (.int x2), .val (.int x3), .val (.int x4), .val (.ref al), .val (.int (3 : Int32)), .val (.int r), .val (.ref b0), .val (.ref b1), .val (.ref b2), .val (.int (1 : Int32)), .val (.int (1 : Int32)), .val (.int (1 : Int32)), .val (.ref a), .val got, .val .null] []))
      refine Go.of (fun _ q => XS.aload X52.here hx rfl (hb hby at_209) rfl rfl q) ?_
      show Go _ _ _ _ _ _ _ (T52.setTop (mkF m 211 #[.val (.int x1), .val (.int x2), .val (.int x3), .val (.int x4), .val (.ref al), .val (.int (3 : Int32)), .val (.int r), .val (.ref b0), .val (.ref b1), .val (.ref b2), .val (.int (1 : Int32)), .val (.int (1 : Int32)), .val (.int (1 : Int32)), .val (.ref a), .val got, .val .null] [(.ref b0)]))
      refine Go.of (fun _ q => XS.astore X52.here hx rfl (hb hby at_211) rfl rfl (l' := #[.val (.int x1), .val (.int x2), .val (.int x3), .val (.int x4), .val (.ref al), .val (.int (3 : Int32)), .val (.int r), .val (.ref b0), .val (.ref b1), .val (.ref b2), .val (.int (1 : Int32)), .val (.int (1 : Int32)), .val (.int (1 : Int32)), .val (.ref a), .val got, .val (.ref b0)]) rfl q) ?_
      show Go _ _ _ _ _ _ _ (T52.setTop (mkF m 213 #[.val (.int x1), .val (.int x2), .val (.int x3), .val (.int x4), .val (.ref al), .val (.int (3 : Int32)), .val (.int r), .val (.ref b0), .val (.ref b1), .val (.ref b2), .val (.int (1 : Int32)), .val (.int (1 : Int32)), .val (.int (1 : Int32)), .val (.ref a), .val got, .val (.ref b0)] []))
      refine Go.of (fun _ q => XS.goto X52.here hx rfl (pc0 := 213) (pc' := 257) rfl (hb hby at_213) (by decide) (by decide) q) ?_
      show Go _ _ _ _ _ _ _ (T52.setTop (mkF m 257 #[.val (.int x1), .val (.int x2), .val (.int x3), .val (.int x4), .val (.ref al), .val (.int (3 : Int32)), .val (.int r), .val (.ref b0), .val (.ref b1), .val (.ref b2), .val (.int (1 : Int32)), .val (.int (1 : Int32)), .val (.int (1 : Int32)), .val (.ref a), .val got, .val (.ref b0)] []))
      exact J55 T52 _ _ (pad X52 (by decide) (by decide)) e52 N52 (by rw [if_neg c206]) rfl
set_option maxRecDepth 65536 in
set_option maxHeartbeats 40000000 in
theorem comes_1 {Post : Tables → Env → Array Value → State → Outcome → State → Prop} (hpost : ∀ tb e args s v u, (limb_1_1.after args s (.returned v) u = true ∧ limb_1_2.after args s (.returned v) u = true ∧ True) → FrameEnd s (.returned v) u (Jvm.fieldLocs frame_1_writes args s ++ Jvm.arrayLocs frame_1_arrays args s ++ Jvm.staticLocs frame_1_statics s) 16 128 → Post tb e args s (.returned v) u) :
    ArmFor flags0 classFile x code maxLocals ret World_1 tables_1 room_1 Calls_1 rest_1 Pre_1 Post := by
  intro l hfl _ _ p e ha hc hk s m args below hf hA hF happ hP
  obtain ⟨hcalls, hrest, hpre⟩ := hP
  obtain ⟨-, -, -, hnamed, -, -, -, hat⟩ := (Spec.applies_iff hf).mp happ
  obtain ⟨hg, hn⟩ := and_e (Cond.before_iff.mp (show (Jvm.Cond.and given_1 narrow_1).before args s = true from hpre))
  obtain ⟨g1, g2⟩ := and_e hg
  obtain ⟨g3, g4⟩ := and_e g2
  obtain ⟨g5, g6⟩ := and_e g4
  obtain ⟨g7, g8⟩ := and_e g6
  obtain ⟨w0, w1, w2, w3, rfl⟩ : ∃ w0 w1 w2 w3 : Value, args = #[w0, w1, w2, w3] := by
    have hs : args.size = 4 := by simpa [Cond.value, given_1] using g1
    obtain ⟨L⟩ := args
    match L, hs with
    | [w0, w1, w2, w3], _ => exact ⟨w0, w1, w2, w3, rfl⟩
  have hw := fun d (hd : d ∈ tables_1) => atoms_spec (ws := Jvm.Cond.code x code maxLocals ret :: tables_1) hat d (List.mem_cons_of_mem _ hd)
  have hfit : Fit s := fun {y c} hc i hi => by
    obtain ⟨ha, rfl⟩ := Array.getElem?_eq_some_iff.mp hc
    have q := List.all_eq_true.mp ((Array.all_eq_true_iff_forall_mem.mp hF) _ (Array.getElem_mem ha)) i (List.mem_range.mpr hi)
    simpa [Array.getElem?_eq_getElem hi] using q
  obtain ⟨hsets, hown0⟩ := atoms_of _ (rest_1_c_eq ▸ (show rest_1_c.before _ s = true from hrest))
  have hr0 := Cond.before_iff.mp hown0
  obtain ⟨i0, ei0⟩ := is_v g3
  obtain rfl : w0 = (.int i0) := Option.some.inj ei0
  obtain ⟨i1, ei1⟩ := is_v g5
  obtain rfl : w1 = (.int i1) := Option.some.inj ei1
  obtain ⟨i2, ei2⟩ := is_v g7
  obtain rfl : w2 = (.int i2) := Option.some.inj ei2
  obtain ⟨i3, ei3⟩ := is_v g8
  obtain rfl : w3 = (.int i3) := Option.some.inj ei3
  obtain ⟨hn1a, hn1b⟩ := and_e hn
  obtain ⟨a_MAMMALS, ev_MAMMALS⟩ := exa_v hn1a
  have S_MAMMALS := Sta.start ev_MAMMALS (Or.inr ⟨(hw _ (List.mem_of_getElem? (i := 3) rfl)), (hw _ (List.mem_of_getElem? (i := 4) rfl))⟩)
  have E_MAMMALS := Exa.start ev_MAMMALS hn1a
  obtain ⟨hn2a, hn2b⟩ := and_e hn1b
  obtain ⟨a_REPTILES, ev_REPTILES⟩ := exa_v hn2a
  have S_REPTILES := Sta.start ev_REPTILES (Or.inr ⟨(hw _ (List.mem_of_getElem? (i := 3) rfl)), (hw _ (List.mem_of_getElem? (i := 7) rfl))⟩)
  have E_REPTILES := Exa.start ev_REPTILES hn2a
  obtain ⟨hn3a, hn3b⟩ := and_e hn2b
  obtain ⟨a_BIRDS, ev_BIRDS⟩ := exa_v hn3a
  have S_BIRDS := Sta.start ev_BIRDS (Or.inr ⟨(hw _ (List.mem_of_getElem? (i := 3) rfl)), (hw _ (List.mem_of_getElem? (i := 9) rfl))⟩)
  have E_BIRDS := Exa.start ev_BIRDS hn3a
  obtain ⟨hn4a, hn4b⟩ := and_e hn3b
  obtain ⟨a_AMPHIBIANS, ev_AMPHIBIANS⟩ := exa_v hn4a
  have S_AMPHIBIANS := Sta.start ev_AMPHIBIANS (Or.inr ⟨(hw _ (List.mem_of_getElem? (i := 3) rfl)), (hw _ (List.mem_of_getElem? (i := 11) rfl))⟩)
  have E_AMPHIBIANS := Exa.start ev_AMPHIBIANS hn4a
  obtain ⟨hn5a, hn5b⟩ := and_e hn4b
  obtain ⟨a_ARACHNIDS, ev_ARACHNIDS⟩ := exa_v hn5a
  have S_ARACHNIDS := Sta.start ev_ARACHNIDS (Or.inr ⟨(hw _ (List.mem_of_getElem? (i := 3) rfl)), (hw _ (List.mem_of_getElem? (i := 13) rfl))⟩)
  have E_ARACHNIDS := Exa.start ev_ARACHNIDS hn5a
  obtain ⟨a_INSECTS, ev_INSECTS⟩ := exa_v hn5b
  have S_INSECTS := Sta.start ev_INSECTS (Or.inr ⟨(hw _ (List.mem_of_getElem? (i := 3) rfl)), (hw _ (List.mem_of_getElem? (i := 15) rfl))⟩)
  have E_INSECTS := Exa.start ev_INSECTS hn5b
  obtain ⟨em, eem⟩ := exa_v (Cond.before_iff.mp (hsets _ (List.mem_of_getElem? (i := 2) rfl)))
  have Sem := Sta.start eem (Or.inl (hsets _ (List.mem_of_getElem? (i := 1) rfl)))
  have Eem := Exa.start eem (Cond.before_iff.mp (hsets _ (List.mem_of_getElem? (i := 2) rfl)))
  have Fem := Fld.start ((fld_at eem).symm.trans (null_v (Cond.before_iff.mp (hsets _ (List.mem_of_getElem? (i := 3) rfl)))))
  obtain ⟨n, o, h1, h2, h3, _, L, rfl, ⟨rfl, N⟩, hq⟩ := rm0 l s _ hw i0 i1 i2 i3 a_MAMMALS a_REPTILES a_BIRDS a_AMPHIBIANS a_ARACHNIDS a_INSECTS em s.heap s.heap.size (Nat.le_refl _) (Old.start s) S_MAMMALS S_REPTILES S_BIRDS S_AMPHIBIANS S_ARACHNIDS S_INSECTS E_MAMMALS E_REPTILES E_BIRDS E_AMPHIBIANS E_ARACHNIDS E_INSECTS Sem Eem Fem tables_1 p e ha hc hk s m _ below hf ((Spec.applies_iff_loose hf).mp happ).1 ⟨rfl, State.Warmed39.refl s, rfl⟩ trivial
  refine ⟨n, _, h1, h2, h3, hpost _ _ _ _ _ _ ⟨Cond.after_iff.mpr rfl, Cond.after_iff.mpr (eq_i res_at (Term.int_eval (1)) rfl), trivial⟩ ⟨hq.1, hq.2.1, (hq.2.2.sift fun y hy => Or.inr (N y hy)).mono (by decide) (by decide)⟩⟩
theorem main_1_1 : Claimed_1_1 := comes_1 fun _ _ _ _ _ _ h hF => ⟨h.1, hF⟩
theorem main_1_2 : Claimed_1_2 := comes_1 fun _ _ _ _ _ _ h hF => ⟨h.2.1, hF⟩
end Jvm.Pilot.@@N@@
namespace Jvm.Pilot.@@N@@
open Jvm Jvm.ClassFile Sem Op Lib Jvm.Free Jvm.Stand Jvm.Pilot.@@N@@.Jvm.D
/-! MADE BY PROGRAM (witnessworld.py) out of the Statement's table words and the real class files: 16 classes; the members and pool entries that the words name. The judged class is class 1, her method 2. -/
namespace start1
open Jvm.ClassFile
def u (s : String) : CpInfo := .utf8 (stringToUtf16 s)
/-- a pool by its gaps: so many unusable entries, then the entry; so many at the end -/
def gap : Nat → List CpInfo → List CpInfo
  | 0, r => r
  | n + 1, r => .unusable :: gap n r
def poolList (es : List (Nat × CpInfo)) (last : Nat) : List CpInfo := es.foldr (fun e r => gap e.1 (e.2 :: r)) (gap last [])
def pool (es : List (Nat × CpInfo)) (last : Nat) : Array CpInfo := ⟨poolList es last⟩
def fileOf (pool : Array CpInfo) (this : Nat) (attrs : Array Attribute := #[]) (ms : Array MethodInfo := #[]) (fl : Nat := 33) (sup : Nat := 0) (ifs : Array Nat := #[]) (fds : Array FieldInfo := #[]) : ClassFile where
  minorVersion := 0
  majorVersion := 65
  constantPool := pool
  accessFlags := fl
  thisClass := this
  superClass := sup
  interfaces := ifs
  fields := fds
  methods := ms
  attributes := attrs
def plain (name : String) (sup : Option ClassId) : Class where
  name := name
  kind := .ordinary
  loader := none
  accessFlags := 33
  super := sup
  interfaces := #[]
  cf := none
  fields := #[]
  methods := #[]
  instanceTypes := #[]
  staticTypes := #[]
  resolved := #[]
  callSites := []
  init := .initialized
  statics := none
  mirror := none

def pool0 : Array CpInfo := pool [(5, u "<init>"), (0, u "()V"), (1, .class_ 10), (1, u "java/lang/Object")] 113

def k0c0 : Code := { maxStack := 0, maxLocals := 1, code := object_method_1_code, exceptionTable := #[], attributes := #[] }
def k0m0 : Method := { name := "<init>", desc := "()V", sig := { parameters := [], returnType := none }, accessFlags := 1, code := some k0c0 }
/-- java/lang/Object -/
def k0 : Class := { plain "java/lang/Object" none with
  accessFlags := 33
  interfaces := #[]
  cf := some (fileOf pool0 8 #[] #[{ accessFlags := 1, nameIndex := 5, descriptorIndex := 6, attributes := #[] }] 33 0 #[] #[])
  fields := #[]
  methods := #[k0m0]
  instanceTypes := #[]
  staticTypes := #[]
  resolved := Array.replicate 124 none
  statics := none }

def pool1 : Array CpInfo := pool [(2, .class_ 4), (0, .nameAndType 5 6), (0, u "java/lang/Object"), (0, u "<init>"), (0, u "()V"), (0, .class_ 8), (0, u "com/example/tundra_ascent/tundraascent/rules/Animal"), (0, .fieldref 7 10), (0, .nameAndType 11 12), (0, u "MAMMALS"), (0, u "Lcom/example/tundra_ascent/tundraascent/rules/Animal;"), (0, .fieldref 7 14), (0, .nameAndType 15 12), (0, u "REPTILES"), (0, .fieldref 7 17), (0, .nameAndType 18 12), (0, u "BIRDS"), (0, .fieldref 7 20), (0, .nameAndType 21 12), (0, u "AMPHIBIANS"), (0, .fieldref 7 23), (0, .nameAndType 24 12), (0, u "ARACHNIDS"), (0, .fieldref 7 26), (0, .nameAndType 27 12), (0, u "INSECTS"), (0, .integer 2147483647), (0, .class_ 30), (0, u "com/example/tundra_ascent/tundraascent/rules/StrictlyMost"), (0, .methodref 29 3), (0, .methodref 29 33), (0, .nameAndType 34 35), (0, u "count"), (0, u "(Lcom/example/tundra_ascent/tundraascent/rules/Animal;I)V"), (0, .methodref 29 37), (0, .nameAndType 38 39), (0, u "animal"), (0, u "()Ljava/util/Optional;"), (0, .methodref 41 42), (0, .class_ 43), (0, .nameAndType 44 45), (0, u "java/util/Optional"), (0, u "orElse"), (0, u "(Ljava/lang/Object;)Ljava/lang/Object;"), (0, .methodref 47 48), (0, .class_ 49), (0, .nameAndType 50 51), (0, u "com/example/tundra_ascent/tundraascent/rules/StrictlyMostCountPinLaw"), (0, u "wins"), (0, u "(ZIZIZI)Z"), (3, u "law"), (0, u "(IIII)Z")] 4

def k1m0 : Method := { name := "<init>", desc := "()V", sig := { parameters := [], returnType := none }, accessFlags := 1, code := none }
def k1c1 : Code := { maxStack := 2, maxLocals := 6, code := method_2_code, exceptionTable := #[], attributes := #[] }
def k1m1 : Method := { name := "wins", desc := "(ZIZIZI)Z", sig := { parameters := [.boolean, .int, .boolean, .int, .boolean, .int], returnType := some .boolean }, accessFlags := 10, code := some k1c1 }
def k1c2 : Code := { maxStack := 6, maxLocals := 16, code := code, exceptionTable := #[], attributes := #[] }
def k1m2 : Method := { name := "law", desc := "(IIII)Z", sig := { parameters := [.int, .int, .int, .int], returnType := some .boolean }, accessFlags := 9, code := some k1c2 }
/-- com/example/tundra_ascent/tundraascent/rules/StrictlyMostCountPinLaw -/
def k1 : Class := { plain "com/example/tundra_ascent/tundraascent/rules/StrictlyMostCountPinLaw" (some 0) with
  accessFlags := 49
  interfaces := #[]
  cf := some (fileOf pool1 47 #[] #[{ accessFlags := 1, nameIndex := 5, descriptorIndex := 6, attributes := #[] }, { accessFlags := 10, nameIndex := 50, descriptorIndex := 51, attributes := #[] }, { accessFlags := 9, nameIndex := 55, descriptorIndex := 56, attributes := #[] }] 49 2 #[] #[])
  fields := #[]
  methods := #[k1m0, k1m1, k1m2]
  instanceTypes := #[]
  staticTypes := #[]
  resolved := Array.replicate 61 none
  statics := none }

def pool2 : Array CpInfo := pool [(1, .class_ 2), (0, u "java/lang/constant/Constable"), (0, .class_ 4), (0, u "java/lang/Object")] 6

/-- java/lang/constant/Constable -/
def k2 : Class := { plain "java/lang/constant/Constable" (some 0) with
  accessFlags := 1537
  interfaces := #[]
  cf := some (fileOf pool2 1 #[] #[] 1537 3 #[] #[])
  fields := #[]
  methods := #[]
  instanceTypes := #[]
  staticTypes := #[]
  resolved := Array.replicate 11 none
  statics := none }

def pool3 : Array CpInfo := pool [(1, .class_ 2), (0, u "java/lang/Comparable"), (0, .class_ 4), (0, u "java/lang/Object")] 7

/-- java/lang/Comparable -/
def k3 : Class := { plain "java/lang/Comparable" (some 0) with
  accessFlags := 1537
  interfaces := #[]
  cf := some (fileOf pool3 1 #[] #[] 1537 3 #[] #[])
  fields := #[]
  methods := #[]
  instanceTypes := #[]
  staticTypes := #[]
  resolved := Array.replicate 12 none
  statics := none }

def pool4 : Array CpInfo := pool [(1, .class_ 2), (0, u "java/io/Serializable"), (0, .class_ 4), (0, u "java/lang/Object")] 2

/-- java/io/Serializable -/
def k4 : Class := { plain "java/io/Serializable" (some 0) with
  accessFlags := 1537
  interfaces := #[]
  cf := some (fileOf pool4 1 #[] #[] 1537 3 #[] #[])
  fields := #[]
  methods := #[]
  instanceTypes := #[]
  staticTypes := #[]
  resolved := Array.replicate 7 none
  statics := none }

def pool5 : Array CpInfo := pool [(2, .class_ 4), (1, u "java/lang/Enum"), (0, u "name"), (0, u "Ljava/lang/String;"), (2, u "ordinal"), (0, u "I"), (1, .class_ 14), (1, u "java/lang/Object"), (4, u "hash"), (86, .class_ 108), (1, u "java/lang/Enum$EnumDesc"), (2, .class_ 112), (0, u "java/lang/constant/Constable"), (0, .class_ 114), (0, u "java/lang/Comparable"), (0, .class_ 116), (0, u "java/io/Serializable")] 87

/-- java/lang/Enum -/
def k5 : Class := { plain "java/lang/Enum" (some 0) with
  accessFlags := 1057
  interfaces := #[2, 3, 4]
  cf := some (fileOf pool5 2 #[.nestMembers #[106]] #[] 1057 12 #[111, 113, 115] #[{ accessFlags := 18, nameIndex := 5, descriptorIndex := 6, attributes := #[] }, { accessFlags := 18, nameIndex := 9, descriptorIndex := 10, attributes := #[] }, { accessFlags := 2, nameIndex := 19, descriptorIndex := 10, attributes := #[] }])
  fields := #[{ name := "name", type := (.object "java/lang/String"), accessFlags := 18, slot := 0, constantValue := 0 }, { name := "ordinal", type := .int, accessFlags := 18, slot := 1, constantValue := 0 }, { name := "hash", type := .int, accessFlags := 2, slot := 2, constantValue := 0 }]
  methods := #[]
  instanceTypes := #[(.object "java/lang/String"), .int, .int]
  staticTypes := #[]
  resolved := Array.replicate 204 none
  statics := none }

def pool6 : Array CpInfo := pool [(2, .class_ 4), (1, u "com/example/tundra_ascent/tundraascent/core/RecordNamed"), (34, .class_ 40), (0, u "java/lang/Object")] 11

/-- com/example/tundra_ascent/tundraascent/core/RecordNamed -/
def k6 : Class := { plain "com/example/tundra_ascent/tundraascent/core/RecordNamed" (some 0) with
  accessFlags := 1537
  interfaces := #[]
  cf := some (fileOf pool6 2 #[] #[] 1537 39 #[] #[])
  fields := #[]
  methods := #[]
  instanceTypes := #[]
  staticTypes := #[]
  resolved := Array.replicate 52 none
  statics := none }

def pool7 : Array CpInfo := pool [(1, .class_ 2), (0, u "com/example/tundra_ascent/tundraascent/rules/Animal"), (2, u "MAMMALS"), (0, u "Lcom/example/tundra_ascent/tundraascent/rules/Animal;"), (2, u "REPTILES"), (2, u "BIRDS"), (2, u "AMPHIBIANS"), (2, u "ARACHNIDS"), (2, u "INSECTS"), (2, u "$VALUES"), (0, u "[Lcom/example/tundra_ascent/tundraascent/rules/Animal;"), (6, .class_ 34), (1, u "java/lang/Enum"), (8, u "printedElements"), (0, u "Ljava/util/List;"), (2, u "startingSpecies"), (1, .class_ 51), (1, u "com/example/tundra_ascent/tundraascent/core/RecordNamed")] 107

/-- com/example/tundra_ascent/tundraascent/rules/Animal -/
def k7 : Class := { plain "com/example/tundra_ascent/tundraascent/rules/Animal" (some 5) with
  accessFlags := 16433
  interfaces := #[6]
  cf := some (fileOf pool7 1 #[] #[] 16433 32 #[49] #[{ accessFlags := 16409, nameIndex := 5, descriptorIndex := 6, attributes := #[] }, { accessFlags := 16409, nameIndex := 9, descriptorIndex := 6, attributes := #[] }, { accessFlags := 16409, nameIndex := 12, descriptorIndex := 6, attributes := #[] }, { accessFlags := 16409, nameIndex := 15, descriptorIndex := 6, attributes := #[] }, { accessFlags := 16409, nameIndex := 18, descriptorIndex := 6, attributes := #[] }, { accessFlags := 16409, nameIndex := 21, descriptorIndex := 6, attributes := #[] }, { accessFlags := 18, nameIndex := 43, descriptorIndex := 44, attributes := #[] }, { accessFlags := 18, nameIndex := 47, descriptorIndex := 44, attributes := #[] }, { accessFlags := 4122, nameIndex := 24, descriptorIndex := 25, attributes := #[] }])
  fields := #[{ name := "MAMMALS", type := (.object "com/example/tundra_ascent/tundraascent/rules/Animal"), accessFlags := 16409, slot := 0, constantValue := 0 }, { name := "REPTILES", type := (.object "com/example/tundra_ascent/tundraascent/rules/Animal"), accessFlags := 16409, slot := 1, constantValue := 0 }, { name := "BIRDS", type := (.object "com/example/tundra_ascent/tundraascent/rules/Animal"), accessFlags := 16409, slot := 2, constantValue := 0 }, { name := "AMPHIBIANS", type := (.object "com/example/tundra_ascent/tundraascent/rules/Animal"), accessFlags := 16409, slot := 3, constantValue := 0 }, { name := "ARACHNIDS", type := (.object "com/example/tundra_ascent/tundraascent/rules/Animal"), accessFlags := 16409, slot := 4, constantValue := 0 }, { name := "INSECTS", type := (.object "com/example/tundra_ascent/tundraascent/rules/Animal"), accessFlags := 16409, slot := 5, constantValue := 0 }, { name := "printedElements", type := (.object "java/util/List"), accessFlags := 18, slot := 3, constantValue := 0 }, { name := "startingSpecies", type := (.object "java/util/List"), accessFlags := 18, slot := 4, constantValue := 0 }, { name := "$VALUES", type := (.array (.object "com/example/tundra_ascent/tundraascent/rules/Animal")), accessFlags := 4122, slot := 6, constantValue := 0 }]
  methods := #[]
  instanceTypes := #[(.object "java/lang/String"), .int, .int, (.object "java/util/List"), (.object "java/util/List")]
  staticTypes := #[(.object "com/example/tundra_ascent/tundraascent/rules/Animal"), (.object "com/example/tundra_ascent/tundraascent/rules/Animal"), (.object "com/example/tundra_ascent/tundraascent/rules/Animal"), (.object "com/example/tundra_ascent/tundraascent/rules/Animal"), (.object "com/example/tundra_ascent/tundraascent/rules/Animal"), (.object "com/example/tundra_ascent/tundraascent/rules/Animal"), (.array (.object "com/example/tundra_ascent/tundraascent/rules/Animal"))]
  resolved := Array.replicate 159 none
  statics := some 0 }

def pool8 : Array CpInfo := pool [(1, .methodref 2 3), (0, .class_ 4), (0, .nameAndType 5 6), (0, u "java/lang/Object"), (0, u "<init>"), (0, u "()V"), (0, .fieldref 8 9), (0, .class_ 10), (0, .nameAndType 11 12), (0, u "com/example/tundra_ascent/tundraascent/rules/StrictlyMost"), (0, u "highestCount"), (0, u "I"), (0, .fieldref 8 14), (0, .nameAndType 15 16), (0, u "highest"), (0, u "Lcom/example/tundra_ascent/tundraascent/rules/Animal;"), (0, .fieldref 8 18), (0, .nameAndType 19 20), (0, u "tied"), (0, u "Z"), (0, .methodref 22 23), (0, .class_ 24), (0, .nameAndType 25 26), (0, u "java/util/Optional"), (0, u "empty"), (0, u "()Ljava/util/Optional;"), (0, .methodref 22 28), (0, .nameAndType 29 30), (0, u "ofNullable"), (0, u "(Ljava/lang/Object;)Ljava/util/Optional;"), (2, u "count"), (0, u "(Lcom/example/tundra_ascent/tundraascent/rules/Animal;I)V"), (1, u "animal")] 4

def k8c0 : Code := { maxStack := 1, maxLocals := 1, code := prog_30_method_1_code, exceptionTable := #[], attributes := #[] }
def k8m0 : Method := { name := "<init>", desc := "()V", sig := { parameters := [], returnType := none }, accessFlags := 0, code := some k8c0 }
def k8c1 : Code := { maxStack := 2, maxLocals := 3, code := prog_30_method_2_code, exceptionTable := #[], attributes := #[] }
def k8m1 : Method := { name := "count", desc := "(Lcom/example/tundra_ascent/tundraascent/rules/Animal;I)V", sig := { parameters := [(.object "com/example/tundra_ascent/tundraascent/rules/Animal"), .int], returnType := none }, accessFlags := 0, code := some k8c1 }
def k8c2 : Code := { maxStack := 1, maxLocals := 1, code := prog_30_method_3_code, exceptionTable := #[], attributes := #[] }
def k8m2 : Method := { name := "animal", desc := "()Ljava/util/Optional;", sig := { parameters := [], returnType := some (.object "java/util/Optional") }, accessFlags := 0, code := some k8c2 }
/-- com/example/tundra_ascent/tundraascent/rules/StrictlyMost -/
def k8 : Class := { plain "com/example/tundra_ascent/tundraascent/rules/StrictlyMost" (some 0) with
  accessFlags := 48
  interfaces := #[]
  cf := some (fileOf pool8 8 #[] #[{ accessFlags := 0, nameIndex := 5, descriptorIndex := 6, attributes := #[] }, { accessFlags := 0, nameIndex := 33, descriptorIndex := 34, attributes := #[] }, { accessFlags := 0, nameIndex := 36, descriptorIndex := 26, attributes := #[] }] 48 2 #[] #[{ accessFlags := 2, nameIndex := 15, descriptorIndex := 16, attributes := #[] }, { accessFlags := 2, nameIndex := 11, descriptorIndex := 12, attributes := #[] }, { accessFlags := 2, nameIndex := 19, descriptorIndex := 20, attributes := #[] }])
  fields := #[{ name := "highest", type := (.object "com/example/tundra_ascent/tundraascent/rules/Animal"), accessFlags := 2, slot := 0, constantValue := 0 }, { name := "highestCount", type := .int, accessFlags := 2, slot := 1, constantValue := 0 }, { name := "tied", type := .boolean, accessFlags := 2, slot := 2, constantValue := 0 }]
  methods := #[k8m0, k8m1, k8m2]
  instanceTypes := #[(.object "com/example/tundra_ascent/tundraascent/rules/Animal"), .int, .boolean]
  staticTypes := #[]
  resolved := Array.replicate 41 none
  statics := none }

def pool9 : Array CpInfo := pool [(1, .fieldref 2 3), (0, .class_ 4), (0, .nameAndType 5 6), (0, u "java/util/Optional"), (0, u "EMPTY"), (0, u "Ljava/util/Optional;"), (0, .methodref 8 9), (0, .class_ 10), (0, .nameAndType 11 12), (0, u "java/lang/Object"), (0, u "<init>"), (0, u "()V"), (0, .fieldref 2 14), (0, .nameAndType 15 16), (0, u "value"), (0, u "Ljava/lang/Object;"), (5, u "(Ljava/lang/Object;)Ljava/lang/Object;"), (0, .methodref 2 24), (0, .nameAndType 11 25), (0, u "(Ljava/lang/Object;)V"), (29, u "empty"), (0, u "()Ljava/util/Optional;"), (7, u "ofNullable"), (0, u "(Ljava/lang/Object;)Ljava/util/Optional;"), (99, u "orElse")] 21

def k9c0 : Code := { maxStack := 1, maxLocals := 1, code := jdk_32_method_1_code, exceptionTable := #[], attributes := #[] }
def k9m0 : Method := { name := "empty", desc := "()Ljava/util/Optional;", sig := { parameters := [], returnType := some (.object "java/util/Optional") }, accessFlags := 9, code := some k9c0 }
def k9c1 : Code := { maxStack := 2, maxLocals := 2, code := jdk_32_method_2_code, exceptionTable := #[], attributes := #[] }
def k9m1 : Method := { name := "<init>", desc := "(Ljava/lang/Object;)V", sig := { parameters := [(.object "java/lang/Object")], returnType := none }, accessFlags := 2, code := some k9c1 }
def k9c2 : Code := { maxStack := 3, maxLocals := 1, code := jdk_32_method_4_code, exceptionTable := #[], attributes := #[] }
def k9m2 : Method := { name := "ofNullable", desc := "(Ljava/lang/Object;)Ljava/util/Optional;", sig := { parameters := [(.object "java/lang/Object")], returnType := some (.object "java/util/Optional") }, accessFlags := 9, code := some k9c2 }
def k9c3 : Code := { maxStack := 1, maxLocals := 2, code := jdk_32_method_15_code, exceptionTable := #[], attributes := #[] }
def k9m3 : Method := { name := "orElse", desc := "(Ljava/lang/Object;)Ljava/lang/Object;", sig := { parameters := [(.object "java/lang/Object")], returnType := some (.object "java/lang/Object") }, accessFlags := 1, code := some k9c3 }
/-- java/util/Optional -/
def k9 : Class := { plain "java/util/Optional" (some 0) with
  accessFlags := 49
  interfaces := #[]
  cf := some (fileOf pool9 2 #[] #[{ accessFlags := 9, nameIndex := 55, descriptorIndex := 56, attributes := #[] }, { accessFlags := 2, nameIndex := 11, descriptorIndex := 25, attributes := #[] }, { accessFlags := 9, nameIndex := 64, descriptorIndex := 65, attributes := #[] }, { accessFlags := 1, nameIndex := 165, descriptorIndex := 22, attributes := #[] }] 49 8 #[] #[{ accessFlags := 26, nameIndex := 5, descriptorIndex := 6, attributes := #[] }, { accessFlags := 18, nameIndex := 15, descriptorIndex := 16, attributes := #[] }])
  fields := #[{ name := "EMPTY", type := (.object "java/util/Optional"), accessFlags := 26, slot := 0, constantValue := 0 }, { name := "value", type := (.object "java/lang/Object"), accessFlags := 18, slot := 0, constantValue := 0 }]
  methods := #[k9m0, k9m1, k9m2, k9m3]
  instanceTypes := #[(.object "java/lang/Object")]
  staticTypes := #[(.object "java/util/Optional")]
  resolved := Array.replicate 187 none
  statics := some 1 }

def pool10 : Array CpInfo := pool [(1, u "java/lang/Cloneable"), (0, .class_ 1), (0, u "java/lang/Object"), (0, .class_ 3)] 3

/-- java/lang/Cloneable -/
def k10 : Class := { plain "java/lang/Cloneable" (some 0) with
  accessFlags := 1537
  interfaces := #[]
  cf := some (fileOf pool10 2 #[] #[] 1537 4 #[] #[])
  fields := #[]
  methods := #[]
  instanceTypes := #[]
  staticTypes := #[]
  resolved := Array.replicate 8 none
  statics := none }

/-- the primitive byte -/
def k11 : Class := { plain "byte" none with kind := .primitive 'B', accessFlags := 0x411 }
/-- [B -/
def k12 : Class := { plain "[B" (some 0) with kind := .array 11 .byte, interfaces := #[10, 4], accessFlags := 1041 }

/-- the primitive int -/
def k13 : Class := { plain "int" none with kind := .primitive 'I', accessFlags := 0x411 }
/-- [I -/
def k14 : Class := { plain "[I" (some 0) with kind := .array 13 .int, interfaces := #[10, 4], accessFlags := 1041 }

/-- [Lcom/example/tundra_ascent/tundraascent/rules/Animal; -/
def k15 : Class := { plain "[Lcom/example/tundra_ascent/tundraascent/rules/Animal;" (some 0) with kind := .array 7 (.object "com/example/tundra_ascent/tundraascent/rules/Animal"), interfaces := #[10, 4], accessFlags := 1041 }

def heap : Heap := #[{ cls := 7, slots := #[.ref 2, .ref 3, .ref 4, .ref 5, .ref 6, .ref 7, .null], vm := .statics 7 },
  { cls := 9, slots := #[.ref 8], vm := .statics 9 },
  { cls := 7, slots := #[.null, .int 0, .int 0, .null, .null], vm := .none },
  { cls := 7, slots := #[.null, .int 1, .int 0, .null, .null], vm := .none },
  { cls := 7, slots := #[.null, .int 2, .int 0, .null, .null], vm := .none },
  { cls := 7, slots := #[.null, .int 3, .int 0, .null, .null], vm := .none },
  { cls := 7, slots := #[.null, .int 4, .int 0, .null, .null], vm := .none },
  { cls := 7, slots := #[.null, .int 5, .int 0, .null, .null], vm := .none },
  { cls := 9, slots := #[.null], vm := .none }]
def classes : Array Class := #[k0, k1, k2, k3, k4, k5, k6, k7, k8, k9, k10, k11, k12, k13, k14, k15]
def interned : List (Array UInt16 × Addr) := []
def slotsUsed : Nat := 39
def theMethod : MethodId := ⟨1, 2⟩
def args0 : Array Value := #[.int 5, .int 5, .int 5, .int 5]
def aboutOver (below : List Frame) : State where
  vm := { classes := classes, interned := interned.toArray }
  heap := heap
  slotsUsed := slotsUsed
  threads := #[{ frames := .invoking theMethod args0 :: below }]
def below0 : List Frame := [.native { method := ⟨0, 0⟩, args := #[] }]
def about1 : State := aboutOver below0
def p0 : Program := .bare "" "" ""
def e0 : Env := launch0.env 0 0 0
theorem w_frames : about1.frames = Frame.invoking theMethod args0 :: below0 := rfl
set_option maxRecDepth 65536 in
theorem w_args : argsFit about1.vm theMethod args0 = true := by decide +kernel
set_option maxRecDepth 65536 in
theorem w_heap : heapFits about1 = true := by decide +kernel
set_option maxRecDepth 65536 in
theorem w_runnable : about1.curStatus? = some .runnable := by decide +kernel
set_option maxRecDepth 65536 in
theorem w_alone : about1.alone = true := by decide +kernel
set_option maxRecDepth 65536 in
theorem w_named : about1.methodNamed? x = some theMethod := by decide +kernel
set_option maxRecDepth 65536 in
theorem w_hears : about1.hears theMethod below0 = true := by decide +kernel
set_option maxRecDepth 65536 in
theorem w_ripe : about1.ripe theMethod args0 below0 = true := by decide +kernel
theorem w_running : about1.status = .running := rfl
set_option maxRecDepth 65536 in
theorem w_room : about1.hasRoom e0.platform room_1 = true :=
  launch0.hasRoom_least _ room_1 (by decide +kernel) (by decide +kernel) (by decide +kernel) (by decide +kernel) (by decide +kernel) (by decide +kernel)
theorem allAtoms_all (ts : List Jvm.Cond) (a : Array Jvm.Value) (st : Jvm.State) : (allAtoms ts).before a st = ts.all (fun c => c.before a st) := by
  induction ts with
  | nil => rfl
  | cons c t ih =>
    show (Jvm.Cond.and c (allAtoms t)).before a st = _
    rw [Jvm.Cond.before_and, ih, List.all_cons]
def words1 : List Jvm.Cond := Jvm.Cond.code x code maxLocals ret :: tables_1
/-- a 'code' word, met by the world's own term for the bytes: nothing is compared byte by byte -/
theorem code_word {y : MethodName} {bytes : ByteArray} {mx : Nat} {rt : Option FieldType} {a : Array Value} {s : State} {m : MethodId} {meth : Method} {c : Code} (h1 : s.methodNamed? y = some m) (h2 : s.vm.method? m = some meth) (h3 : meth.code = some c) (h4 : c.code = bytes)
    (h5 : (c.maxLocals == mx && c.exceptionTable.isEmpty && decide (c.maxStack ≤ mostOperands) && decide (meth.sig.returnType = rt) && !meth.locks && decide (parseMethodDescriptor y.desc = some meth.sig)) = true) : (Jvm.Cond.code y bytes mx rt).before a s = true := by
  simp only [Bool.and_eq_true, beq_iff_eq, Bool.not_eq_true', decide_eq_true_eq] at h5
  obtain ⟨⟨⟨⟨⟨g1, g2⟩, g3⟩, g4⟩, g5⟩, g6⟩ := h5
  simp [Cond.before, Cond.holds, Cond.value, h1, h2, h3, h4, g1, g2, g3, g4, g5, g6]
def isCode : Jvm.Cond → Bool
  | .code _ _ _ _ => true
  | _ => false
theorem all_split {L : List Jvm.Cond} {P : Jvm.Cond → Bool} (h1 : L.all (fun c => isCode c || P c) = true) (h2 : ∀ c ∈ L.filter isCode, P c = true) : L.all P = true := by
  refine List.all_eq_true.mpr fun c hc => ?_
  have h := List.all_eq_true.mp h1 c hc
  rcases Bool.eq_false_or_eq_true (isCode c) with hi | hi
  · exact h2 c (List.mem_filter.mpr ⟨hc, hi⟩)
  · simpa [hi] using h
set_option maxRecDepth 65536 in
theorem w_c0 : (Jvm.Cond.code x code maxLocals ret).before args0 about1 = true := code_word (m := ⟨1, 2⟩) (meth := k1m2) (c := k1c2) (by decide +kernel) rfl rfl rfl (by decide +kernel)
set_option maxRecDepth 65536 in
theorem w_c1 : (Jvm.Cond.code ({ cls := "com/example/tundra_ascent/tundraascent/rules/StrictlyMost", name := "<init>", desc := "()V" } : Jvm.MethodName) prog_30_method_1_code (1 : Nat) (Option.none : Option Jvm.ClassFile.FieldType)).before args0 about1 = true := code_word (m := ⟨8, 0⟩) (meth := k8m0) (c := k8c0) (by decide +kernel) rfl rfl rfl (by decide +kernel)
set_option maxRecDepth 65536 in
theorem w_c2 : (Jvm.Cond.code ({ cls := "java/lang/Object", name := "<init>", desc := "()V" } : Jvm.MethodName) object_method_1_code (1 : Nat) (Option.none : Option Jvm.ClassFile.FieldType)).before args0 about1 = true := code_word (m := ⟨0, 0⟩) (meth := k0m0) (c := k0c0) (by decide +kernel) rfl rfl rfl (by decide +kernel)
set_option maxRecDepth 65536 in
theorem w_c3 : (Jvm.Cond.code ({ cls := "com/example/tundra_ascent/tundraascent/rules/StrictlyMost", name := "count", desc := "(Lcom/example/tundra_ascent/tundraascent/rules/Animal;I)V" } : Jvm.MethodName) prog_30_method_2_code (3 : Nat) (Option.none : Option Jvm.ClassFile.FieldType)).before args0 about1 = true := code_word (m := ⟨8, 1⟩) (meth := k8m1) (c := k8c1) (by decide +kernel) rfl rfl rfl (by decide +kernel)
set_option maxRecDepth 65536 in
theorem w_c4 : (Jvm.Cond.code ({ cls := "com/example/tundra_ascent/tundraascent/rules/StrictlyMost", name := "animal", desc := "()Ljava/util/Optional;" } : Jvm.MethodName) prog_30_method_3_code (1 : Nat) (Option.some (Jvm.ClassFile.FieldType.object "java/util/Optional"))).before args0 about1 = true := code_word (m := ⟨8, 2⟩) (meth := k8m2) (c := k8c2) (by decide +kernel) rfl rfl rfl (by decide +kernel)
set_option maxRecDepth 65536 in
theorem w_c5 : (Jvm.Cond.code ({ cls := "java/util/Optional", name := "empty", desc := "()Ljava/util/Optional;" } : Jvm.MethodName) jdk_32_method_1_code (1 : Nat) (Option.some (Jvm.ClassFile.FieldType.object "java/util/Optional"))).before args0 about1 = true := code_word (m := ⟨9, 0⟩) (meth := k9m0) (c := k9c0) (by decide +kernel) rfl rfl rfl (by decide +kernel)
set_option maxRecDepth 65536 in
theorem w_c6 : (Jvm.Cond.code ({ cls := "java/util/Optional", name := "orElse", desc := "(Ljava/lang/Object;)Ljava/lang/Object;" } : Jvm.MethodName) jdk_32_method_15_code (2 : Nat) (Option.some (Jvm.ClassFile.FieldType.object "java/lang/Object"))).before args0 about1 = true := code_word (m := ⟨9, 3⟩) (meth := k9m3) (c := k9c3) (by decide +kernel) rfl rfl rfl (by decide +kernel)
set_option maxRecDepth 65536 in
theorem w_c7 : (Jvm.Cond.code ({ cls := "com/example/tundra_ascent/tundraascent/rules/StrictlyMostCountPinLaw", name := "wins", desc := "(ZIZIZI)Z" } : Jvm.MethodName) method_2_code (6 : Nat) (Option.some Jvm.ClassFile.FieldType.boolean)).before args0 about1 = true := code_word (m := ⟨1, 1⟩) (meth := k1m1) (c := k1c1) (by decide +kernel) rfl rfl rfl (by decide +kernel)
set_option maxRecDepth 65536 in
theorem w_c8 : (Jvm.Cond.code ({ cls := "java/util/Optional", name := "ofNullable", desc := "(Ljava/lang/Object;)Ljava/util/Optional;" } : Jvm.MethodName) jdk_32_method_4_code (1 : Nat) (Option.some (Jvm.ClassFile.FieldType.object "java/util/Optional"))).before args0 about1 = true := code_word (m := ⟨9, 2⟩) (meth := k9m2) (c := k9c2) (by decide +kernel) rfl rfl rfl (by decide +kernel)
set_option maxRecDepth 65536 in
theorem w_c9 : (Jvm.Cond.code ({ cls := "java/util/Optional", name := "<init>", desc := "(Ljava/lang/Object;)V" } : Jvm.MethodName) jdk_32_method_2_code (2 : Nat) (Option.none : Option Jvm.ClassFile.FieldType)).before args0 about1 = true := code_word (m := ⟨9, 1⟩) (meth := k9m1) (c := k9c1) (by decide +kernel) rfl rfl rfl (by decide +kernel)
def codes1 : List Jvm.Cond := [Jvm.Cond.code x code maxLocals ret, Jvm.Cond.code ({ cls := "com/example/tundra_ascent/tundraascent/rules/StrictlyMost", name := "<init>", desc := "()V" } : Jvm.MethodName) prog_30_method_1_code (1 : Nat) (Option.none : Option Jvm.ClassFile.FieldType), Jvm.Cond.code ({ cls := "java/lang/Object", name := "<init>", desc := "()V" } : Jvm.MethodName) object_method_1_code (1 : Nat) (Option.none : Option Jvm.ClassFile.FieldType), Jvm.Cond.code ({ cls := "com/example/tundra_ascent/tundraascent/rules/StrictlyMost", name := "count", desc := "(Lcom/example/tundra_ascent/tundraascent/rules/Animal;I)V" } : Jvm.MethodName) prog_30_method_2_code (3 : Nat) (Option.none : Option Jvm.ClassFile.FieldType), Jvm.Cond.code ({ cls := "com/example/tundra_ascent/tundraascent/rules/StrictlyMost", name := "animal", desc := "()Ljava/util/Optional;" } : Jvm.MethodName) prog_30_method_3_code (1 : Nat) (Option.some (Jvm.ClassFile.FieldType.object "java/util/Optional")), Jvm.Cond.code ({ cls := "java/util/Optional", name := "empty", desc := "()Ljava/util/Optional;" } : Jvm.MethodName) jdk_32_method_1_code (1 : Nat) (Option.some (Jvm.ClassFile.FieldType.object "java/util/Optional")), Jvm.Cond.code ({ cls := "java/util/Optional", name := "orElse", desc := "(Ljava/lang/Object;)Ljava/lang/Object;" } : Jvm.MethodName) jdk_32_method_15_code (2 : Nat) (Option.some (Jvm.ClassFile.FieldType.object "java/lang/Object")), Jvm.Cond.code ({ cls := "com/example/tundra_ascent/tundraascent/rules/StrictlyMostCountPinLaw", name := "wins", desc := "(ZIZIZI)Z" } : Jvm.MethodName) method_2_code (6 : Nat) (Option.some Jvm.ClassFile.FieldType.boolean), Jvm.Cond.code ({ cls := "java/util/Optional", name := "ofNullable", desc := "(Ljava/lang/Object;)Ljava/util/Optional;" } : Jvm.MethodName) jdk_32_method_4_code (1 : Nat) (Option.some (Jvm.ClassFile.FieldType.object "java/util/Optional")), Jvm.Cond.code ({ cls := "java/util/Optional", name := "<init>", desc := "(Ljava/lang/Object;)V" } : Jvm.MethodName) jdk_32_method_2_code (2 : Nat) (Option.none : Option Jvm.ClassFile.FieldType)]
set_option maxRecDepth 65536 in
theorem codes_eq : words1.filter isCode = codes1 := rfl
theorem w_codes : ∀ c ∈ words1.filter isCode, c.before args0 about1 = true := by
  rw [codes_eq]
  intro c hc
  simp only [codes1, List.mem_cons, List.not_mem_nil, or_false] at hc
  rcases hc with rfl | rfl | rfl | rfl | rfl | rfl | rfl | rfl | rfl | rfl
  · exact w_c0
  · exact w_c1
  · exact w_c2
  · exact w_c3
  · exact w_c4
  · exact w_c5
  · exact w_c6
  · exact w_c7
  · exact w_c8
  · exact w_c9
set_option maxRecDepth 65536 in
theorem w_t1 : (words1.take 24).all (fun c => isCode c || c.before args0 about1) = true := by decide +kernel
set_option maxRecDepth 65536 in
theorem w_t2 : ((words1.drop 24).take 24).all (fun c => isCode c || c.before args0 about1) = true := by decide +kernel
set_option maxRecDepth 65536 in
theorem w_t3 : ((words1.drop 24).drop 24).all (fun c => isCode c || c.before args0 about1) = true := by decide +kernel
theorem w_tables : (allAtoms (Jvm.Cond.code x code maxLocals ret :: tables_1)).before args0 about1 = true := by
  rw [allAtoms_all]
  show words1.all (fun c => c.before args0 about1) = true
  refine all_split ?_ w_codes
  rw [← List.take_append_drop 24 words1, List.all_append, w_t1, ← List.take_append_drop 24 (words1.drop 24), List.all_append, w_t2, w_t3]
  rfl
set_option maxRecDepth 65536 in
theorem w_rest : rest_1_c.before args0 about1 = true := by decide +kernel
set_option maxRecDepth 65536 in
theorem w_case : (Jvm.Cond.and given_1 narrow_1).before args0 about1 = true := by decide +kernel
theorem w_applies : (headSpec (Jvm.Cond.code x code maxLocals ret :: tables_1) room_1).applies x e0.platform about1 = true :=
  (Spec.applies_iff w_frames).mpr ⟨w_running, w_runnable, w_alone, w_named, w_hears, w_ripe, w_room, w_tables⟩
theorem atStart : AtStart classFile x code maxLocals ret World_1 tables_1 room_1 Calls_1 rest_1 Pre_1 launch0 p0 e0 about1 theMethod args0 below0 :=
  ⟨lists_1, trivial, launch0.admits_env _ _ _, launch0.least_env, fairChoices_fair.cas, fairChoices_fair.clock, w_frames, w_args, w_heap, w_applies, trivial, w_rest, w_case⟩
end start1
theorem witness_1 : WitnessClaimed_1 := ⟨start1.p0, start1.e0, start1.about1, start1.theMethod, start1.args0, start1.below0, start1.atStart⟩
end Jvm.Pilot.@@N@@
