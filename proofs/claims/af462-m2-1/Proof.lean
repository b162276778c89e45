import JvmDerived
import JvmDerived.Pilot.@@N@@Statement
import JvmDerived.Pilot.@@N@@Code
set_option linter.unusedVariables false
set_option linter.unusedSimpArgs false
namespace Jvm.OwnKit
open Sem ClassFile Op Lib Jvm.Stand Jvm.Free Jvm.LawKit Jvm.RoadKit
section Kit
variable {p : Program} {l : Launch} {e : Env} {R : Room} {s : State} {m : MethodId} {args : Array Value} {below : List Frame} {meth : Method} {c : Code} {T : State} {locs : List Loc} {cells slots : Nat} {Z : State} {a0 : Array Value} {h h0 : Heap} {kc ks : Nat} {Q : Option Value → Heap → List Loc → Prop}
/-- from this state the body comes to its end, and Q holds of what it returns, of the heap there and of the places written -/
def Go (p : Program) (e : Env) (below : List Frame) (s : State) (kc ks : Nat) (Q : Option Value → Heap → List Loc → Prop) (a : State) : Prop :=
  ∃ (t : State) (o : Outcome), Steps p.tables e below a t ∧ t.status = .running ∧ Ended t below o ∧ ∃ v L, o = .returned v ∧ Q v t.heap L ∧ FrameEnd s o t L kc ks
theorem Go.of {a b : State} (st : ∀ t, Steps p.tables e below b t → Steps p.tables e below a t) (k : Go p e below s kc ks Q b) : Go p e below s kc ks Q a := by
  obtain ⟨t, o, h, r⟩ := k
  exact ⟨t, o, st t h, r⟩
theorem pad (X : Stand p l e R s m args below meth c T locs cells slots) {cells' slots' : Nat} (hc : cells ≤ cells') (hs : slots ≤ slots') : Stand p l e R s m args below meth c T locs cells' slots' :=
  ⟨X.admits, X.cas, X.clock, X.frames, X.room, X.hears, X.method, X.code, X.here, X.tail, X.warmed, X.limits, X.bytes, X.same.mono hc hs⟩
theorem Go.leave (X : Stand p l e R s m args below meth c T locs cells slots) (hlk : meth.locks = false) {v : Option Value} (hv : meth.sig.returnType = none → v = none) {g : JFrame}
    (st : ∀ fs, (∀ (f : JFrame) (acts : List Action), f.method = m → f.locked = none → f.entered = [] → (doReturn e (T.setTop f) acts v).1 = T.setFrames fs) → Steps p.tables e below (T.setTop g) (T.setFrames fs))
    (hc : cells ≤ kc) (hs : slots ≤ ks) (q : Q v T.heap locs) : Go p e below s kc ks Q (T.setTop g) := by
  obtain ⟨fs, hr, hrun, hended, hW, hsame⟩ := X.leave hv hlk
  exact ⟨_, _, st fs hr, hrun, hended, v, locs, rfl, q, ⟨_, rfl⟩, hW, hsame.mono hc hs⟩
theorem Go.retI (X : Stand p l e R s m args below meth c T locs cells slots) (hx : p.tables.exec = Jvm.exec) (hlk : meth.locks = false) (hret : meth.sig.returnType = some .int) {pc : Nat} {Ls : Array Slot} {z : Int32} {rest : List Value}
    (hd : decode c.code pc = .ok (.ireturn, 1)) (hc : cells ≤ kc) (hs : slots ≤ ks) (q : Q (some (.int z)) T.heap locs) : Go p e below s kc ks Q (T.setTop (mkF m pc Ls (.int z :: rest))) :=
  Go.leave X hlk (fun h => by rw [hret] at h; cases h) (fun fs hr => retOut X hx hret rfl (Or.inl ⟨rfl, Or.inl rfl, z, rfl⟩) hd hr) hc hs q
theorem Go.retN (X : Stand p l e R s m args below meth c T locs cells slots) (hx : p.tables.exec = Jvm.exec) (hlk : meth.locks = false) {t : FieldType} (hret : meth.sig.returnType = some t) (ht : t = .boolean ∨ t = .byte ∨ t = .char ∨ t = .short) {pc : Nat} {Ls : Array Slot} {z : Int32} {rest : List Value}
    (hd : decode c.code pc = .ok (.ireturn, 1)) (hz : nar t z = z) (hc : cells ≤ kc) (hs : slots ≤ ks) (q : Q (some (.int z)) T.heap locs) : Go p e below s kc ks Q (T.setTop (mkF m pc Ls (.int z :: rest))) :=
  Go.leave X hlk (fun h => by rw [hret] at h; cases h) (fun fs hr => RoadKit.retN X hx hret ht hd (by rw [hz]; exact hr)) hc hs q
theorem Go.retJ (X : Stand p l e R s m args below meth c T locs cells slots) (hx : p.tables.exec = Jvm.exec) (hlk : meth.locks = false) (hret : meth.sig.returnType = some .long) {pc : Nat} {Ls : Array Slot} {z : Int64} {rest : List Value}
    (hd : decode c.code pc = .ok (.lreturn, 1)) (hc : cells ≤ kc) (hs : slots ≤ ks) (q : Q (some (.long z)) T.heap locs) : Go p e below s kc ks Q (T.setTop (mkF m pc Ls (.long z :: rest))) :=
  Go.leave X hlk (fun h => by rw [hret] at h; cases h) (fun fs hr => retOut X hx hret rfl (Or.inr (Or.inl ⟨rfl, rfl, z, rfl⟩)) hd hr) hc hs q
theorem Go.retA (X : Stand p l e R s m args below meth c T locs cells slots) (hx : p.tables.exec = Jvm.exec) (hlk : meth.locks = false) {t : FieldType} (hret : meth.sig.returnType = some t) (ht : t.isReference = true) {pc : Nat} {Ls : Array Slot} {z : Value} {rest : List Value} (hz : z.isRef = true)
    (hd : decode c.code pc = .ok (.areturn, 1)) (hc : cells ≤ kc) (hs : slots ≤ ks) (q : Q (some z) T.heap locs) : Go p e below s kc ks Q (T.setTop (mkF m pc Ls (z :: rest))) :=
  Go.leave X hlk (fun h => by rw [hret] at h; cases h) (fun fs hr => retOut X hx hret (by cases t <;> first | rfl | (simp [FieldType.isReference] at ht; done)) (Or.inr (Or.inr (Or.inr (Or.inr ⟨rfl, ht, hz⟩)))) hd hr) hc hs q
theorem Go.retV (X : Stand p l e R s m args below meth c T locs cells slots) (hx : p.tables.exec = Jvm.exec) (hlk : meth.locks = false) (hret : meth.sig.returnType = none) {pc : Nat} {Ls : Array Slot}
    (hd : decode c.code pc = .ok (.return_, 1)) (hc : cells ≤ kc) (hs : slots ≤ ks) (q : Q none T.heap locs) : Go p e below s kc ks Q (T.setTop (mkF m pc Ls [])) :=
  Go.leave X hlk (fun _ => rfl) (fun fs hr => X.returnOut hx hret hd hr) hc hs q
/-- a body's contract: called with these arguments over this heap it returns, and Q holds -/
def Con (l : Launch) (Z : State) (y : MethodName) (bytes : ByteArray) (maxL : Nat) (ret : Option FieldType) (rm : Room) (as' : Array Value) (h0 : Heap) (Q : Option Value → Heap → List Loc → Prop) : Prop :=
  ∀ ws : List Cond, MetFree l y (head1 (Cond.code y bytes maxL ret :: ws) rm) (fun a U => a = as' ∧ Z.Warmed39 U.vm ∧ U.heap = h0) (fun _ _ _ _ _ => True) (fun _ U o U' => ∃ v L, o = .returned v ∧ Q v U'.heap L ∧ FrameEnd U o U' L rm.cells rm.slots)
theorem Con.intro {y : MethodName} {bytes : ByteArray} {maxL : Nat} {ret : Option FieldType} {rm : Room} {as' : Array Value} {gf : MethodId → JFrame} (hpl : plainFor y = true) (hef : ∀ m, entryFrame m as' maxL = gf m)
    (body : ∀ (p : Program) (e : Env) (s : State) (m : MethodId) (below : List Frame) (meth : Method) (c : Code) (s₁ : State), p.tables.exec = Jvm.exec → c.code = bytes → c.maxLocals = maxL → Z.Warmed39 s.vm → s.vm.findClass y.cls = some m.cls → meth.name = y.name → meth.sig.returnType = ret → meth.locks = false →
      Stand p l e rm s m as' below meth c s₁ [] 0 0 → s₁.heap = h0 → Go p e below s rm.cells rm.slots Q (s₁.setTop (gf m))) : Con l Z y bytes maxL ret rm as' h0 Q := by
  intro ws
  refine MetFree.of_bodySF hpl hisR ?_
  intro p e s m args below meth c s₁ Bd hml hP hK
  obtain ⟨rfl, hZ, hh⟩ := hP
  have k := body p e s m below meth c s₁ Bd.exec Bd.bytes hml hZ (findClass_of_methodNamed Bd.named) (name_of_methodNamed Bd.named Bd.method).1 Bd.returns Bd.notSynchronized (Stand.of_body Bd) (by rw [← hh, Bd.state]; rfl)
  rw [← hef m] at k
  exact k
theorem Go.static (X : Stand p l e R s m args below meth c T locs cells slots) (hx : p.tables.exec = Jvm.exec) (hZ : Z.Warmed39 s.vm) {own : String} {index : Nat} {y : MethodName} {bytes : ByteArray} {maxL : Nat} {ret : Option FieldType} {rm : Room} {Q' : Option Value → Heap → List Loc → Prop} {argsL : List Value}
    (hown : s.vm.findClass own = some m.cls) (w1 : (Cond.methodLink own index y).before a0 Z = true) (w2 : (Cond.static y).before a0 Z = true) (w3 : (Cond.initialized y.cls).before a0 Z = true) (w4 : (Cond.code y bytes maxL ret).before a0 Z = true)
    (hy : y.cls ≠ "java/lang/invoke/MethodHandle" ∧ y.cls ≠ "java/lang/invoke/VarHandle") (W : Nat) (eT : T.heap = h) (K : Con l Z y bytes maxL ret rm argsL.toArray h Q') (hf : rm.frames + 1 ≤ R.frames) (hlo : W + (maxL + 11) + rm.locals ≤ R.locals) (hc : cells + rm.cells ≤ R.cells) (hs : slots + rm.slots ≤ R.slots)
    {g : JFrame} (hg : g.method = m) (hsize : g.locals.size = c.maxLocals) {rest : List Value} (hlen : ∀ sig, parseMethodDescriptor y.desc = some sig → argsL.length = sig.parameters.length) (hstack : g.stack = argsL.reverse ++ rest) (hW : 2 * g.monitorRoom + (rest.map fun v => v.category).sum ≤ W)
    (hd : decode c.code g.pc = .ok (.invokestatic index, 3))
    (k : ∀ (T' : State) (v : Option Value) (L : List Loc), Stand p l e R s m args below meth c T' (locs ++ L) (cells + rm.cells) (slots + rm.slots) → Q' v T'.heap L → Go p e below s kc ks Q (T'.setTop { g with pc := g.pc + 3, stack := v.toList ++ rest })) : Go p e below s kc ks Q (T.setTop g) := by
  obtain ⟨v, _, ⟨T', L', k', n'⟩, -, X', ⟨Lc, hQ, l1, l2, l3⟩, st⟩ := Jvm.LawKit.callS X hx hown (mvT hZ w1) (mvT hZ w2) (mvT hZ w3) (mvT hZ w4) hy (backOf (W := W) (K []) hZ w4 w3 hf hlo) hg hsize hlen hstack hW hd (fun _ _ => ⟨rfl, eT, hc, hs⟩)
  dsimp only [Pt.U, Pt.locs, Pt.cells, Pt.slots] at X' l1 l2 l3 st hQ
  subst l1 l2 l3
  exact Go.of st (k T' v Lc X' hQ)
theorem Go.special (X : Stand p l e R s m args below meth c T locs cells slots) (hx : p.tables.exec = Jvm.exec) (hZ : Z.Warmed39 s.vm) {own : String} {index : Nat} {y : MethodName} {bytes : ByteArray} {maxL : Nat} {rm : Room} {Q' : Option Value → Heap → List Loc → Prop} {a : Addr} {argsL : List Value} (hy1 : y.name = "<init>")
    (hown : s.vm.findClass own = some m.cls) (w1 : (Cond.methodLink own index y).before a0 Z = true) (w2 : (Cond.instanceMethod y).before a0 Z = true) (w3 : (Cond.initialized y.cls).before a0 Z = true) (w4 : (Cond.code y bytes maxL none).before a0 Z = true)
    (hy : y.cls ≠ "java/lang/invoke/MethodHandle" ∧ y.cls ≠ "java/lang/invoke/VarHandle") (W : Nat) (eT : T.heap = h) (K : Con l Z y bytes maxL none rm (Value.ref a :: argsL).toArray h Q') (hf : rm.frames + 1 ≤ R.frames) (hlo : W + (maxL + 11) + rm.locals ≤ R.locals) (hc : cells + rm.cells ≤ R.cells) (hs : slots + rm.slots ≤ R.slots)
    {g : JFrame} (hg : g.method = m) (hsize : g.locals.size = c.maxLocals) {rest : List Value} (hlen : ∀ sig, parseMethodDescriptor y.desc = some sig → argsL.length = sig.parameters.length) (hstack : g.stack = argsL.reverse ++ .ref a :: rest) (hW : 2 * g.monitorRoom + (rest.map fun v => v.category).sum ≤ W)
    (hd : decode c.code g.pc = .ok (.invokespecial index, 3))
    (k : ∀ (T' : State) (v : Option Value) (L : List Loc), Stand p l e R s m args below meth c T' (locs ++ L) (cells + rm.cells) (slots + rm.slots) → Q' v T'.heap L → Go p e below s kc ks Q (T'.setTop { g with pc := g.pc + 3, stack := v.toList ++ rest })) : Go p e below s kc ks Q (T.setTop g) := by
  obtain ⟨v, _, ⟨T', L', k', n'⟩, -, X', ⟨Lc, hQ, l1, l2, l3⟩, st⟩ := X.specialBack hx hy1 hown (mvT hZ w1) (mvT hZ w2) (mvT hZ w4) hy (backOf (W := W) (K []) hZ w4 w3 hf hlo) hg hsize (Steps.refl _) hlen hstack hW hd (fun _ _ => ⟨rfl, eT, hc, hs⟩)
  dsimp only [Pt.U, Pt.locs, Pt.cells, Pt.slots] at X' l1 l2 l3 st hQ
  subst l1 l2 l3
  exact Go.of (fun _ q => st.trans q) (k T' v Lc X' hQ)
theorem Go.virtual (X : Stand p l e R s m args below meth c T locs cells slots) (hx : p.tables.exec = Jvm.exec) (hZ : Z.Warmed39 s.vm) {own C : String} {index : Nat} {y z : MethodName} {bytes : ByteArray} {maxL : Nat} {ret : Option FieldType} {rm : Room} {Q' : Option Value → Heap → List Loc → Prop} {a : Addr} {argsL : List Value}
    (hown : s.vm.findClass own = some m.cls) (w1 : (Cond.methodLink own index y).before a0 Z = true) (w2 : (Cond.declares y).before a0 Z = true) (hnf : NotFace s y) (w5 : (Cond.selects C y z).before a0 Z = true) (w6 : (Cond.instanceMethod z).before a0 Z = true) (w3 : (Cond.initialized z.cls).before a0 Z = true) (w4 : (Cond.code z bytes maxL ret).before a0 Z = true)
    (hy : y.cls ≠ "java/lang/invoke/MethodHandle" ∧ y.cls ≠ "java/lang/invoke/VarHandle") (W : Nat) (eT : T.heap = h) (E : Exa Z h a C) (K : Con l Z z bytes maxL ret rm (Value.ref a :: argsL).toArray h Q') (hf : rm.frames + 1 ≤ R.frames) (hlo : W + (maxL + 11) + rm.locals ≤ R.locals) (hc : cells + rm.cells ≤ R.cells) (hs : slots + rm.slots ≤ R.slots)
    {g : JFrame} (hg : g.method = m) (hsize : g.locals.size = c.maxLocals) {rest : List Value} (hlen : ∀ sig, parseMethodDescriptor y.desc = some sig → argsL.length = sig.parameters.length) (hstack : g.stack = argsL.reverse ++ .ref a :: rest) (hW : 2 * g.monitorRoom + (rest.map fun v => v.category).sum ≤ W)
    (hd : decode c.code g.pc = .ok (.invokevirtual index, 3))
    (k : ∀ (T' : State) (v : Option Value) (L : List Loc), Stand p l e R s m args below meth c T' (locs ++ L) (cells + rm.cells) (slots + rm.slots) → Q' v T'.heap L → Go p e below s kc ks Q (T'.setTop { g with pc := g.pc + 3, stack := v.toList ++ rest })) : Go p e below s kc ks Q (T.setTop g) := by
  obtain ⟨cq, kq, qa, -, qc⟩ := isOf hZ eT E
  obtain ⟨v, _, ⟨T', L', k', n'⟩, -, X', ⟨Lc, hQ, l1, l2, l3⟩, st⟩ := X.virtualBack hx hown (mvT hZ w1) (mvT hZ w2) hnf (mvT hZ w5) (mvT hZ w6) hy (backOf (W := W) (K []) hZ w4 w3 hf hlo) qa qc hg hsize (Steps.refl _) hlen hstack hW hd (fun _ _ => ⟨rfl, eT, hc, hs⟩)
  dsimp only [Pt.U, Pt.locs, Pt.cells, Pt.slots] at X' l1 l2 l3 st hQ
  subst l1 l2 l3
  exact Go.of (fun _ q => st.trans q) (k T' v Lc X' hQ)
theorem Go.virtualUp (X : Stand p l e R s m args below meth c T locs cells slots) (hx : p.tables.exec = Jvm.exec) (hZ : Z.Warmed39 s.vm) {own C owner : String} {index : Nat} {y z : MethodName} {bytes : ByteArray} {maxL : Nat} {ret : Option FieldType} {rm : Room} {Q' : Option Value → Heap → List Loc → Prop} {a : Addr} {argsL : List Value}
    (hown : s.vm.findClass own = some m.cls) (w1 : (Cond.methodLink own index y).before a0 Z = true) (w2 : (Cond.sameMethod y.cls owner y.name y.desc).before a0 Z = true) (w7 : (Cond.declares ⟨owner, y.name, y.desc⟩).before a0 Z = true) (w5 : (Cond.selects C y z).before a0 Z = true) (w6 : (Cond.instanceMethod z).before a0 Z = true) (w3 : (Cond.initialized z.cls).before a0 Z = true) (w4 : (Cond.code z bytes maxL ret).before a0 Z = true)
    (hy : owner ≠ "java/lang/invoke/MethodHandle" ∧ owner ≠ "java/lang/invoke/VarHandle") (W : Nat) (eT : T.heap = h) (E : Exa Z h a C) (K : Con l Z z bytes maxL ret rm (Value.ref a :: argsL).toArray h Q') (hf : rm.frames + 1 ≤ R.frames) (hlo : W + (maxL + 11) + rm.locals ≤ R.locals) (hc : cells + rm.cells ≤ R.cells) (hs : slots + rm.slots ≤ R.slots)
    {g : JFrame} (hg : g.method = m) (hsize : g.locals.size = c.maxLocals) {rest : List Value} (hlen : ∀ sig, parseMethodDescriptor y.desc = some sig → argsL.length = sig.parameters.length) (hstack : g.stack = argsL.reverse ++ .ref a :: rest) (hW : 2 * g.monitorRoom + (rest.map fun v => v.category).sum ≤ W)
    (hd : decode c.code g.pc = .ok (.invokevirtual index, 3))
    (k : ∀ (T' : State) (v : Option Value) (L : List Loc), Stand p l e R s m args below meth c T' (locs ++ L) (cells + rm.cells) (slots + rm.slots) → Q' v T'.heap L → Go p e below s kc ks Q (T'.setTop { g with pc := g.pc + 3, stack := v.toList ++ rest })) : Go p e below s kc ks Q (T.setTop g) := by
  obtain ⟨cq, kq, qa, -, qc⟩ := isOf hZ eT E
  obtain ⟨v, _, ⟨T', L', k', n'⟩, -, X', ⟨Lc, hQ, l1, l2, l3⟩, st⟩ := X.virtualBackUp hx hown (mvT hZ w1) (mvT hZ w2) (mvT hZ w7) hy (mvT hZ w5) (mvT hZ w6) (backOf (W := W) (K []) hZ w4 w3 hf hlo) qa qc hg hsize (Steps.refl _) hlen hstack hW hd (fun _ _ => ⟨rfl, eT, hc, hs⟩)
  dsimp only [Pt.U, Pt.locs, Pt.cells, Pt.slots] at X' l1 l2 l3 st hQ
  subst l1 l2 l3
  exact Go.of (fun _ q => st.trans q) (k T' v Lc X' hQ)
theorem refCat {v : Value} (h : v.isRef = true) : v.category = 1 := by rcases ref_cases h with rfl | ⟨_, rfl⟩ <;> rfl
theorem storeOne {ls l' : Array Slot} {i : Nat} {v : Value} {o : Slot} (hold : ls[i]? = some o) (ho : One o) (hv : v.category = 1) (e : ls.setIfInBounds i (.val v) = l') : storeLocals ls i v = some l' := by rw [← e]; exact XS.store1 hold ho hv
/-- a cast of what may be null -/
theorem castV (X : Stand p l e R s m args below meth c T locs cells slots) (hx : p.tables.exec = Jvm.exec) (hZ : Z.Warmed39 s.vm) {own K : String} {index : Nat} (hown : s.vm.findClass own = some m.cls) (w : (Cond.classLink own index K).before a0 Z = true) (eT : T.heap = h) {v : Value} (F : v = .null ∨ ∃ a, v = .ref a ∧ Ins Z h a K true)
    {g : JFrame} (hg : g.method = m) {rest : List Value} (hs : g.stack = v :: rest) (hd : decode c.code g.pc = .ok (.checkcast index, 3)) : ∃ T', Stand p l e R s m args below meth c T' locs cells slots ∧ T'.heap = h ∧ ∀ target, Steps p.tables e below (T'.setTop { g with pc := g.pc + 3 }) target → Steps p.tables e below (T.setTop g) target := by
  rcases F with rfl | ⟨a, rfl, I⟩
  · exact ⟨T, X, eT, fun target q => X.checkcastNull hx hg hs hd target q⟩
  · exact castY X hx hZ hown w eT I hg hs hd
end Kit
end Jvm.OwnKit
namespace Jvm.OwnKit
open Sem ClassFile Op Lib Jvm.Stand Jvm.Free Jvm.LawKit Jvm.RoadKit
section Arrays
variable {p : Program} {l : Launch} {e : Env} {R : Room} {s : State} {m : MethodId} {args : Array Value} {below : List Frame} {meth : Method} {c : Code} {T : State} {locs : List Loc} {cells slots : Nat} {Z : State} {a0 : Array Value} {h h' : Heap} {a b : Addr} {k : ClassId} {ty : FieldType} {n i : Nat} {f : Nat → Value} {sl : Nat} {v w : Value} {ws : List Addr} {j : Int32}
/-- the array at a: its class, its kind, its length, what it holds -/
def AF (Z : State) (h : Heap) (a : Addr) (k : ClassId) (ty : FieldType) (n : Nat) (f : Nat → Value) : Prop :=
  ∃ c : Cell, Arr Z h a c ty ∧ c.cls = k ∧ c.slots.size = n ∧ n < 2 ^ 31 ∧ ∀ i, i < n → c.slots[i]? = some (f i)
def updV (f : Nat → Value) (i : Nat) (v : Value) : Nat → Value := fun k => if k = i then v else f k
def upI (f : Nat → Int32) (i : Nat) (v : Int32) : Nat → Int32 := fun k => if k = i then v else f k
/-- the index j is the place i of an array of n -/
def Ix (j : Int32) (i n : Nat) : Prop := j.toNatClampNeg = i ∧ ¬ j < 0 ∧ i < n
theorem Ix.not_out {c : Cell} (q : Ix j i n) (S : c.slots.size = n) : ¬ (j < 0 ∨ c.slots.size ≤ j.toNatClampNeg) := by
  obtain ⟨q1, q2, q3⟩ := q
  rintro (r | r)
  · exact q2 r
  · rw [q1, S] at r; exact absurd q3 (Nat.not_lt.mpr r)
theorem AF.new {z : Int32} {d : Value} (A : Arr Z h a (newA k ty z) ty) (q : ¬ z < 0) (e : z.toNatClampNeg = n) (hd : defaultValue ty = d) : AF Z h a k ty n (fun _ => d) :=
  ⟨_, A, rfl, by rw [sz_new, e], by rw [← e]; exact (back32 q).2, fun i hi => by simp [newA, e, hi, hd]⟩
theorem AF.lt (F : AF Z h a k ty n f) : a < h.size := by obtain ⟨c, A, -⟩ := F; exact A.lt
theorem AF.ext (F : AF Z h a k ty n f) (E : Ext h h') : AF Z h' a k ty n f := by obtain ⟨c, A, r⟩ := F; exact ⟨c, A.ext E, r⟩
theorem AF.other (F : AF Z h b k ty n f) (W : Wr h h' a sl v) (q : b ≠ a) : AF Z h' b k ty n f := by obtain ⟨c, A, r⟩ := F; exact ⟨c, A.other W q, r⟩
theorem AF.keep (F : AF Z h a k ty n f) (K : Keep h h' ws) (q : a ∉ ws) : AF Z h' a k ty n f := by obtain ⟨c, A, r⟩ := F; exact ⟨c, ⟨K.2.1 a c A.1 q, A.2⟩, r⟩
theorem AF.cast {g : Nat → Value} (F : AF Z h a k ty n f) (q : ∀ i, i < n → f i = g i) : AF Z h a k ty n g := by obtain ⟨c, A, r1, r2, r3, H⟩ := F; exact ⟨c, A, r1, r2, r3, fun i hi => by rw [H i hi, q i hi]⟩
theorem AF.set (F : AF Z h a k ty n f) (W : Wr h h' a j.toNatClampNeg v) (q : Ix j i n) : AF Z h' a k ty n (updV f i v) := by
  obtain ⟨c, A, r1, r2, r3, H⟩ := F
  refine ⟨_, Arr.same W A, r1, by rw [sz_set]; exact r2, r3, fun x hx => ?_⟩
  rw [q.1]
  by_cases e : x = i
  · subst e
    simp [Cell.setSlot, updV, r2, hx]
  · have : (c.setSlot i v).slots[x]? = c.slots[x]? := Array.getElem?_setIfInBounds_ne (Ne.symm e)
    rw [this, H x hx]; simp [updV, e]
theorem AF.toI {g : Nat → Int32} {x : Int32} (F : AF Z h a k ty n (updV (fun i => .int (g i)) i (.int x))) : AF Z h a k ty n (fun j => .int ((upI g i x) j)) := F.cast fun j _ => by simp only [updV, upI]; split <;> rfl
theorem AF.length (F : AF Z h a k ty n f) (X : Stand p l e R s m args below meth c T locs cells slots) (hx : p.tables.exec = Jvm.exec) (hZ : Z.Warmed39 s.vm) (eT : T.heap = h) {z : Int32} (hz : n.toInt32 = z) {g : JFrame} (hg : g.method = m) {rest : List Value} (hs : g.stack = .ref a :: rest) (hd : decode c.code g.pc = .ok (.arraylength, 1)) {target : State}
    (q : Steps p.tables e below (T.setTop { g with pc := g.pc + 1, stack := .int z :: rest }) target) : Steps p.tables e below (T.setTop g) target := by
  obtain ⟨cl, A, r1, r2, r3, H⟩ := F
  refine X.arraylength hx (by rw [eT]; exact A.1) (State.isArrayOf_alike hZ.alike A.2.1) hg hs hd _ ?_
  rw [r2, hz]
  exact q
theorem AF.iaload (F : AF Z h a k .int n f) (X : Stand p l e R s m args below meth c T locs cells slots) (hx : p.tables.exec = Jvm.exec) (hZ : Z.Warmed39 s.vm) (eT : T.heap = h) (hi : Ix j i n) (hv : f i = v) {g : JFrame} (hg : g.method = m) {rest : List Value} (hs : g.stack = .int j :: .ref a :: rest) (hd : decode c.code g.pc = .ok (.iaload, 1)) {target : State}
    (q : Steps p.tables e below (T.setTop { g with pc := g.pc + 1, stack := v :: rest }) target) : Steps p.tables e below (T.setTop g) target := by
  obtain ⟨cl, A, r1, r2, r3, H⟩ := F
  exact X.iaload hx (by rw [eT]; exact A.1) (State.isArrayOf_alike hZ.alike A.2.1) A.2.2 (hi.not_out r2) (by rw [hi.1, H i hi.2.2, hv]) hg hs hd _ q
theorem AF.caload (F : AF Z h a k .char n f) (X : Stand p l e R s m args below meth c T locs cells slots) (hx : p.tables.exec = Jvm.exec) (hZ : Z.Warmed39 s.vm) (eT : T.heap = h) (hi : Ix j i n) (hv : f i = v) {g : JFrame} (hg : g.method = m) {rest : List Value} (hs : g.stack = .int j :: .ref a :: rest) (hd : decode c.code g.pc = .ok (.caload, 1)) {target : State}
    (q : Steps p.tables e below (T.setTop { g with pc := g.pc + 1, stack := v :: rest }) target) : Steps p.tables e below (T.setTop g) target := by
  obtain ⟨cl, A, r1, r2, r3, H⟩ := F
  exact X.caload hx (by rw [eT]; exact A.1) (State.isArrayOf_alike hZ.alike A.2.1) A.2.2 (hi.not_out r2) (by rw [hi.1, H i hi.2.2, hv]) hg hs hd _ q
theorem AF.baload (F : AF Z h a k .byte n f) (X : Stand p l e R s m args below meth c T locs cells slots) (hx : p.tables.exec = Jvm.exec) (hZ : Z.Warmed39 s.vm) (eT : T.heap = h) (hi : Ix j i n) (hv : f i = v) {g : JFrame} (hg : g.method = m) {rest : List Value} (hs : g.stack = .int j :: .ref a :: rest) (hd : decode c.code g.pc = .ok (.baload, 1)) {target : State}
    (q : Steps p.tables e below (T.setTop { g with pc := g.pc + 1, stack := v :: rest }) target) : Steps p.tables e below (T.setTop g) target := by
  obtain ⟨cl, A, r1, r2, r3, H⟩ := F
  exact X.baloadBytes hx (by rw [eT]; exact A.1) (State.isArrayOf_alike hZ.alike A.2.1) A.2.2 (hi.not_out r2) (by rw [hi.1, H i hi.2.2, hv]) hg hs hd _ q
theorem AF.aaload (F : AF Z h a k ty n f) (hty : ty.isReference = true) (X : Stand p l e R s m args below meth c T locs cells slots) (hx : p.tables.exec = Jvm.exec) (hZ : Z.Warmed39 s.vm) (eT : T.heap = h) (hi : Ix j i n) (hv : f i = v) {g : JFrame} (hg : g.method = m) {rest : List Value} (hs : g.stack = .int j :: .ref a :: rest) (hd : decode c.code g.pc = .ok (.aaload, 1)) {target : State}
    (q : Steps p.tables e below (T.setTop { g with pc := g.pc + 1, stack := v :: rest }) target) : Steps p.tables e below (T.setTop g) target := by
  obtain ⟨cl, A, r1, r2, r3, H⟩ := F
  exact X.aaload hx (by rw [eT]; exact A.1) (State.isArrayOf_alike hZ.alike A.2.1) hty A.2.2 (hi.not_out r2) (by rw [hi.1, H i hi.2.2, hv]) hg hs hd _ q
theorem AF.iastore (F : AF Z h a k .int n f) (X : Stand p l e R s m args below meth c T locs cells slots) (hx : p.tables.exec = Jvm.exec) (hZ : Z.Warmed39 s.vm) (eT : T.heap = h) (hi : Ix j i n) {x : Int32} {g : JFrame} (hg : g.method = m) {rest : List Value} (hs : g.stack = .int x :: .int j :: .ref a :: rest) (hd : decode c.code g.pc = .ok (.iastore, 1)) :
    ∃ T' h', Stand p l e R s m args below meth c T' (locs ++ [⟨a, j.toNatClampNeg⟩]) cells slots ∧ T'.heap = h' ∧ Wr h h' a j.toNatClampNeg (.int x) ∧ AF Z h' a k .int n (updV f i (.int x)) ∧ ∀ target, Steps p.tables e below (T'.setTop { g with pc := g.pc + 1, stack := rest }) target → Steps p.tables e below (T.setTop g) target := by
  have F0 := F
  obtain ⟨cl, A, r1, r2, r3, H⟩ := F
  obtain ⟨T', h', X', e', W', st'⟩ := stI X hx hZ eT A (hi.not_out r2) hg hs hd
  exact ⟨T', h', X', e', W', F0.set W' hi, st'⟩
theorem AF.castore (F : AF Z h a k .char n f) (X : Stand p l e R s m args below meth c T locs cells slots) (hx : p.tables.exec = Jvm.exec) (hZ : Z.Warmed39 s.vm) (eT : T.heap = h) (hi : Ix j i n) {x : Int32} {g : JFrame} (hg : g.method = m) {rest : List Value} (hs : g.stack = .int x :: .int j :: .ref a :: rest) (hd : decode c.code g.pc = .ok (.castore, 1)) :
    ∃ T' h', Stand p l e R s m args below meth c T' (locs ++ [⟨a, j.toNatClampNeg⟩]) cells slots ∧ T'.heap = h' ∧ Wr h h' a j.toNatClampNeg (.int (nar .char x)) ∧ AF Z h' a k .char n (updV f i (.int (nar .char x))) ∧ ∀ target, Steps p.tables e below (T'.setTop { g with pc := g.pc + 1, stack := rest }) target → Steps p.tables e below (T.setTop g) target := by
  have F0 := F
  obtain ⟨cl, A, r1, r2, r3, H⟩ := F
  obtain ⟨T', h', X', e', W', st'⟩ := stC X hx hZ eT A (hi.not_out r2) hg hs hd
  exact ⟨T', h', X', e', W', F0.set W' hi, st'⟩
theorem AF.bastore (F : AF Z h a k .byte n f) (X : Stand p l e R s m args below meth c T locs cells slots) (hx : p.tables.exec = Jvm.exec) (hZ : Z.Warmed39 s.vm) (eT : T.heap = h) (hi : Ix j i n) {x : Int32} {g : JFrame} (hg : g.method = m) {rest : List Value} (hs : g.stack = .int x :: .int j :: .ref a :: rest) (hd : decode c.code g.pc = .ok (.bastore, 1)) :
    ∃ T' h', Stand p l e R s m args below meth c T' (locs ++ [⟨a, j.toNatClampNeg⟩]) cells slots ∧ T'.heap = h' ∧ Wr h h' a j.toNatClampNeg (.int x.toInt8.toInt32) ∧ AF Z h' a k .byte n (updV f i (.int x.toInt8.toInt32)) ∧ ∀ target, Steps p.tables e below (T'.setTop { g with pc := g.pc + 1, stack := rest }) target → Steps p.tables e below (T.setTop g) target := by
  have F0 := F
  obtain ⟨cl, A, r1, r2, r3, H⟩ := F
  obtain ⟨T', h', X', e', W', st'⟩ := stB X hx hZ eT A (hi.not_out r2) hg hs hd
  exact ⟨T', h', X', e', W', F0.set W' hi, st'⟩
theorem AF.aastore (F : AF Z h a k ty n f) (hty : ty.isReference = true) (X : Stand p l e R s m args below meth c T locs cells slots) (hx : p.tables.exec = Jvm.exec) (hZ : Z.Warmed39 s.vm) (eT : T.heap = h) (hi : Ix j i n) (hsto : Sto Z h a v) {g : JFrame} (hg : g.method = m) {rest : List Value} (hs : g.stack = v :: .int j :: .ref a :: rest) (hd : decode c.code g.pc = .ok (.aastore, 1)) :
    ∃ T' h', Stand p l e R s m args below meth c T' (locs ++ [⟨a, j.toNatClampNeg⟩]) cells slots ∧ T'.heap = h' ∧ Wr h h' a j.toNatClampNeg v ∧ AF Z h' a k ty n (updV f i v) ∧ ∀ target, Steps p.tables e below (T'.setTop { g with pc := g.pc + 1, stack := rest }) target → Steps p.tables e below (T.setTop g) target := by
  have F0 := F
  obtain ⟨cl, A, r1, r2, r3, H⟩ := F
  obtain ⟨T', h', X', e', W', st'⟩ := stR X hx hZ eT A (hi.not_out r2) hty hsto hg hs hd
  exact ⟨T', h', X', e', W', F0.set W' hi, st'⟩
theorem AF.sto {C : String} {y : Addr} (F : AF Z h a k ty n f) (O : Ovr Z k C) (I : Ins Z h y C true) : Sto Z h a (.ref y) := by
  obtain ⟨cl, A, r1, -⟩ := F
  exact Sto.ofV A r1 O I
end Arrays
end Jvm.OwnKit
namespace Jvm.Pilot.@@N@@
open Jvm Jvm.ClassFile Sem Op Lib Jvm.Free Jvm.Stand Jvm.LawKit Jvm.RoadKit Jvm.OwnKit Bundle Jvm.Pilot.@@N@@.Jvm.D
def own_cnt (f : Nat → Value) (v : Value) : Nat → Int32
  | 0 => 0
  | n + 1 => own_cnt f v n + (if f n = v then (1 : Int32) else (0 : Int32))
theorem own_cnt_lo (f : Nat → Value) (v w : Value) (i : Nat) : ∀ n, n ≤ i → own_cnt (updV f i w) v n = own_cnt f v n
  | 0, _ => rfl
  | n + 1, h => by
    show own_cnt (updV f i w) v n + (if updV f i w n = v then (1 : Int32) else 0) = own_cnt f v n + (if f n = v then (1 : Int32) else 0)
    rw [own_cnt_lo f v w i n (by omega)]
    have : updV f i w n = f n := by unfold updV; rw [if_neg (by omega)]
    rw [this]
theorem own_cnt_upd (f : Nat → Value) (v w nul : Value) (i : Nat) (hn : f i = nul) (hv : nul ≠ v) : ∀ n, i < n → own_cnt (updV f i w) v n = own_cnt f v n + (if w = v then (1 : Int32) else (0 : Int32))
  | 0, h => absurd h (Nat.not_lt_zero _)
  | n + 1, h => by
    show own_cnt (updV f i w) v n + (if updV f i w n = v then (1 : Int32) else 0) = own_cnt f v n + (if f n = v then (1 : Int32) else 0) + (if w = v then (1 : Int32) else 0)
    by_cases e : n = i
    · subst e
      rw [own_cnt_lo f v w n n (Nat.le_refl _)]
      have : updV f n w n = w := by unfold updV; rw [if_pos rfl]
      rw [this, hn, if_neg hv, Int32.add_zero]
    · rw [own_cnt_upd f v w nul i hn hv n (by omega)]
      have : updV f i w n = f n := by unfold updV; rw [if_neg e]
      rw [this, Int32.add_assoc, Int32.add_assoc, Int32.add_comm (if w = v then (1 : Int32) else 0)]
theorem own_cnt_nul (v nul : Value) (hv : nul ≠ v) : ∀ n, own_cnt (fun _ => nul) v n = 0
  | 0 => rfl
  | n + 1 => by
    show own_cnt (fun _ => nul) v n + (if nul = v then (1 : Int32) else 0) = 0
    rw [own_cnt_nul v nul hv n, if_neg hv]; rfl
def own_szN : Nat → Int32
  | 0 => 1 | 1 => 3 | 2 => 2 | 3 => 2 | 4 => 1 | 5 => 1 | 6 => 4 | 7 => 6 | 8 => 3 | 9 => 6 | 10 => 7 | _ => 5
def own_first : Nat → Int32
  | 0 => 0 | 1 => 1 | 2 => 4 | 3 => 6 | 4 => 8 | 5 => 9 | 6 => 10 | 7 => 14 | 8 => 20 | 9 => 23 | 10 => 29 | _ => 36
theorem own_12 {k : Nat} (h : k < 12) : k = 0 ∨ k = 1 ∨ k = 2 ∨ k = 3 ∨ k = 4 ∨ k = 5 ∨ k = 6 ∨ k = 7 ∨ k = 8 ∨ k = 9 ∨ k = 10 ∨ k = 11 := by omega
theorem own_6 {k : Nat} (h : k < 6) : k = 0 ∨ k = 1 ∨ k = 2 ∨ k = 3 ∨ k = 4 ∨ k = 5 := by omega
/-- the place of a space of a section -/
def own_idx (k : Nat) (x : Int32) : Nat := (own_first k).toInt.toNat + (x.toInt - 1).toNat
theorem own_idx_lt {k : Nat} (h : k < 12) {x : Int32} (h1 : 1 ≤ x.toInt) (h2 : x.toInt ≤ (own_szN k).toInt) : own_idx k x < 41 ∧ (own_first k + (x - (1 : Int32))).toInt = own_idx k x := by
  have e1 : (1 : Int32).toInt = 1 := by decide
  have key : ∀ a b : Int, (own_first k).toInt = a → (own_szN k).toInt = b → 0 ≤ a → a + b ≤ 41 → own_idx k x < 41 ∧ (own_first k + (x - (1 : Int32))).toInt = own_idx k x := by
    intro a b ea eb h0 hab
    unfold own_idx
    rw [Int32.toInt_add, Int32.toInt_sub, e1, ea, Int.bmod_eq_of_le (n := x.toInt - 1) (by omega) (by omega), Int.bmod_eq_of_le (by omega) (by omega)]
    omega
  rcases own_12 h with rfl | rfl | rfl | rfl | rfl | rfl | rfl | rfl | rfl | rfl | rfl | rfl <;> exact key _ _ rfl rfl (by decide) (by decide)
theorem own_idx_inj {k j : Nat} (hk : k < 12) (hj : j < 12) {x y : Int32} (h1 : 1 ≤ x.toInt) (h2 : x.toInt ≤ (own_szN k).toInt) (g1 : 1 ≤ y.toInt) (g2 : y.toInt ≤ (own_szN j).toInt) (e : own_idx k x = own_idx j y) : k = j ∧ x = y := by
  unfold own_idx at e
  have key : ∀ a b c d : Int, (own_first k).toInt = a → (own_szN k).toInt = b → (own_first j).toInt = c → (own_szN j).toInt = d → 0 ≤ a → 0 ≤ c → (k = j ∨ a + b ≤ c ∨ c + d ≤ a) → k = j ∧ x = y := by
    intro a b c d ea eb ec ed h0 h0' hab
    rw [ea, ec] at e
    rcases hab with q | q | q
    · refine ⟨q, ?_⟩
      subst q
      rw [ea] at ec
      rw [← Int32.toInt_inj]; omega
    · omega
    · omega
  rcases own_12 hk with rfl | rfl | rfl | rfl | rfl | rfl | rfl | rfl | rfl | rfl | rfl | rfl <;> rcases own_12 hj with rfl | rfl | rfl | rfl | rfl | rfl | rfl | rfl | rfl | rfl | rfl | rfl <;> exact key _ _ _ _ rfl rfl rfl rfl (by decide) (by decide) (by decide)
theorem own_rem (x y : Int32) (m : Int) (hm : y.toInt = m) (hp : 0 < m) (hx : 0 ≤ x.toInt) : (x % y).toInt = x.toInt % m := by
  rw [Int32.toInt_mod, hm, Int.tmod_eq_emod_of_nonneg hx]
theorem own_nat (x : Int32) (m : Nat) (h0 : 0 ≤ x.toInt) (h1 : x.toInt < m) : ∃ k : Nat, k < m ∧ x = Int32.ofNat k := by
  refine ⟨x.toInt.toNat, by omega, ?_⟩
  rw [← Int32.toInt_inj, Int32.toInt_ofNat']
  have := x.toInt_lt
  have e : (Int32.size : Int) = 4294967296 := rfl
  rw [Int.bmod_eq_of_le (by omega) (by omega)]
  omega
def own_an (k : Nat) (p0 p1 p2 p3 p4 p5 : Addr) : Addr := match k with | 0 => p0 | 1 => p1 | 2 => p2 | 3 => p3 | 4 => p4 | _ => p5
def own_sec (k : Nat) (q0 q1 q2 q3 q4 q5 q6 q7 q8 q9 q10 q11 : Addr) : Addr := match k with | 0 => q0 | 1 => q1 | 2 => q2 | 3 => q3 | 4 => q4 | 5 => q5 | 6 => q6 | 7 => q7 | 8 => q8 | 9 => q9 | 10 => q10 | _ => q11
theorem eqi_v {args : Array Value} {first s : State} {o : Option Outcome} {idx : List Nat} {t : Term} {n : Int32} (h : (Jvm.Cond.eq t (.int n)).value args first o s idx = some true) : t.eval args first o idx s = some (.int n) := by
  simp only [Cond.value] at h
  cases ht : t.eval args first o idx s with
  | none => simp [ht] at h
  | some x => cases x <;> simp_all [Term.eval]
theorem own_ixk {n : Nat} {x : Int32} {k : Nat} (hn : n ≤ 100) (hk : k < n) (hx : x = Int32.ofNat k) : Ix x k n := by
  subst hx
  have e : (Int32.ofNat k).toInt = k := Int32.toInt_ofNat_of_lt (by omega)
  refine ⟨?_, ?_, hk⟩
  · show (Int32.ofNat k).toInt.toNat = k
    omega
  · rw [Int32.lt_iff_toInt_lt, e]
    have d : (0 : Int32).toInt = 0 := by decide
    omega
theorem own_mod (x m : Int32) (n : Nat) (hm : m.toInt = n) (h0 : 0 < n) (hx : 0 ≤ x.toInt) : ∃ k : Nat, k < n ∧ (x % m) = Int32.ofNat k := by
  have q := own_rem x m n hm (by omega) hx
  have q0 := Int.emod_nonneg x.toInt (show (n : Int) ≠ 0 by omega)
  have q1 := Int.emod_lt_of_pos x.toInt (show (0 : Int) < n by omega)
  exact own_nat (x % m) n (by omega) (by omega)
theorem own_255 (x : Int32) : 0 ≤ (x &&& (255 : Int32)).toInt := (c_and x 255 (by decide)).1
theorem own_sz0 {k : Nat} (hk : k < 12) : own_szN k ≠ 0 := by rcases own_12 hk with rfl | rfl | rfl | rfl | rfl | rfl | rfl | rfl | rfl | rfl | rfl | rfl <;> decide
theorem own_szp {k : Nat} (hk : k < 12) : 0 < (own_szN k).toInt ∧ (own_szN k).toInt < 100 := by rcases own_12 hk with rfl | rfl | rfl | rfl | rfl | rfl | rfl | rfl | rfl | rfl | rfl | rfl <;> decide
theorem own_spb (x : Int32) {k : Nat} (hk : k < 12) {sp : Int32} (h : sp = ((1 : Int32) + ((x &&& (255 : Int32)) % (own_szN k)))) : 1 ≤ sp.toInt ∧ sp.toInt ≤ (own_szN k).toInt := by
  have z := own_szp hk
  have q := own_rem (x &&& (255 : Int32)) (own_szN k) _ rfl z.1 (own_255 x)
  have q0 := Int.emod_nonneg (x &&& (255 : Int32)).toInt (Int.ne_of_gt z.1)
  have q1 := Int.emod_lt_of_pos (x &&& (255 : Int32)).toInt z.1
  have e1 : (1 : Int32).toInt = 1 := by decide
  rw [h, Int32.toInt_add, e1, q, Int.bmod_eq_of_le (by omega) (by omega)]
  omega
theorem own_ix41 {k : Nat} (hk : k < 12) {x : Int32} (h1 : 1 ≤ x.toInt) (h2 : x.toInt ≤ (own_szN k).toInt) : Ix (own_first k + (x - (1 : Int32))) (own_idx k x) 41 := by
  have q := own_idx_lt hk h1 h2
  refine ⟨?_, ?_, q.1⟩
  · show (own_first k + (x - (1 : Int32))).toInt.toNat = own_idx k x
    omega
  · rw [Int32.lt_iff_toInt_lt, q.2]
    have d : (0 : Int32).toInt = 0 := by decide
    omega
theorem own_ci {k : Nat} (hk : k < 12) {x : Int32} (h1 : 1 ≤ x.toInt) (h2 : x.toInt ≤ (own_szN k).toInt) : ¬ (x - (1 : Int32)) < (0 : Int32) ∧ (x - (1 : Int32)) < own_szN k := by
  have z := own_szp hk
  have e1 : (1 : Int32).toInt = 1 := by decide
  have d : (0 : Int32).toInt = 0 := by decide
  rw [Int32.lt_iff_toInt_lt, Int32.lt_iff_toInt_lt, Int32.toInt_sub, e1, d, Int.bmod_eq_of_le (by omega) (by omega)]
  omega
theorem own_inc (i : Nat) (h : i < 1000) : Int32.ofNat i + (1 : Int32) = Int32.ofNat (i + 1) := by
  rw [← Int32.toInt_inj, Int32.toInt_add, Int32.toInt_ofNat_of_lt (by omega), Int32.toInt_ofNat_of_lt (by omega)]
  have e1 : (1 : Int32).toInt = 1 := by decide
  rw [e1, Int.bmod_eq_of_le (by omega) (by omega)]; omega
theorem own_lt41 (i : Nat) (h : i < 1000) : (Int32.ofNat i < (41 : Int32)) ↔ i < 41 := by
  rw [Int32.lt_iff_toInt_lt, Int32.toInt_ofNat_of_lt (by omega)]
  have e1 : (41 : Int32).toInt = 41 := by decide
  rw [e1]; omega
theorem own_ofNat {i j : Nat} (hi : i < 1000) (hj : j < 1000) : Int32.ofNat i = Int32.ofNat j ↔ i = j := by
  rw [← Int32.toInt_inj, Int32.toInt_ofNat_of_lt (by omega), Int32.toInt_ofNat_of_lt (by omega)]; omega
/-- one pawn more, or not -/
def own_put (F : Nat → Value) (on : Int32) (i : Nat) (x : Addr) : Nat → Value := if on = (0 : Int32) then F else updV F i (.ref x)
theorem own_put_null {F : Nat → Value} {on : Int32} {i j : Nat} {x : Addr} (hF : F j = .null) (hne : ¬ on = (0 : Int32) → i ≠ j) : own_put F on i x j = .null := by
  unfold own_put
  by_cases h : on = (0 : Int32)
  · rw [if_pos h]; exact hF
  · rw [if_neg h]; unfold updV; rw [if_neg (Ne.symm (hne h))]; exact hF
theorem own_put_ref {F : Nat → Value} {on : Int32} {i : Nat} {x : Addr} (hF : ∀ j, (F j).isRef = true) : ∀ j, (own_put F on i x j).isRef = true := fun j => by
  unfold own_put
  by_cases h : on = (0 : Int32)
  · rw [if_pos h]; exact hF j
  · rw [if_neg h]
    unfold updV
    by_cases q : j = i
    · rw [if_pos q]; rfl
    · rw [if_neg q]; exact hF j
def own_one (on a b : Int32) : Int32 := if on = (0 : Int32) then (0 : Int32) else if a = b then (1 : Int32) else (0 : Int32)
theorem own_put_cnt {F : Nat → Value} {on : Int32} {i : Nat} {x b : Addr} {u v : Int32} (hF : ¬ on = (0 : Int32) → F i = .null) (hi : i < 41) (hx : x = b ↔ u = v) : own_cnt (own_put F on i x) (.ref b) 41 = own_cnt F (.ref b) 41 + own_one on u v := by
  unfold own_put own_one
  by_cases h : on = (0 : Int32)
  · rw [if_pos h, if_pos h, Int32.add_zero]
  · rw [if_neg h, if_neg h, own_cnt_upd F (.ref b) (.ref x) .null i (hF h) (by simp) 41 hi]
    congr 1
    by_cases e : x = b
    · rw [if_pos (hx.mp e), if_pos (congrArg Value.ref e)]
    · rw [if_neg (fun q => e (hx.mpr q)), if_neg (fun q => e (Value.ref.inj q))]
theorem own_df12 {on1 sp1 sp2 x2 : Int32} {k1 k2 : Nat} {z : Int32} (hz : z = (if (if (((x2.toUInt32 >>> ((24 : Int32) &&& 31).toUInt32).toInt32) &&& (1 : Int32)) = (0 : Int32) then (0 : Int32) else (1 : Int32)) = (0 : Int32) then (0 : Int32) else (if on1 = (0 : Int32) then (1 : Int32) else (if (Int32.ofNat k1) = (Int32.ofNat k2) then (if sp1 = sp2 then (0 : Int32) else (1 : Int32)) else (1 : Int32))))) (hn : ¬ z = (0 : Int32)) : ¬ on1 = (0 : Int32) → ¬ (k1 = k2 ∧ sp1 = sp2) := by
  rintro g ⟨e1, e2⟩
  apply hn
  rw [hz]
  subst e1 e2
  simp only [g, if_true, if_false, ite_self]
theorem own_df13 {on1 sp1 sp2 sp3 x3 zJ15_0 : Int32} {k1 k2 k3 : Nat} {z : Int32} (hz : z = (if (if (((x3.toUInt32 >>> ((24 : Int32) &&& 31).toUInt32).toInt32) &&& (1 : Int32)) = (0 : Int32) then (0 : Int32) else (1 : Int32)) = (0 : Int32) then (0 : Int32) else (if on1 = (0 : Int32) then (if zJ15_0 = (0 : Int32) then (1 : Int32) else (if (Int32.ofNat k2) = (Int32.ofNat k3) then (if sp2 = sp3 then (0 : Int32) else (1 : Int32)) else (1 : Int32))) else (if (Int32.ofNat k1) = (Int32.ofNat k3) then (if sp1 = sp3 then (0 : Int32) else (if zJ15_0 = (0 : Int32) then (1 : Int32) else (if (Int32.ofNat k2) = (Int32.ofNat k3) then (if sp2 = sp3 then (0 : Int32) else (1 : Int32)) else (1 : Int32)))) else (if zJ15_0 = (0 : Int32) then (1 : Int32) else (if (Int32.ofNat k2) = (Int32.ofNat k3) then (if sp2 = sp3 then (0 : Int32) else (1 : Int32)) else (1 : Int32))))))) (hn : ¬ z = (0 : Int32)) : ¬ on1 = (0 : Int32) → ¬ (k1 = k3 ∧ sp1 = sp3) := by
  rintro g ⟨e1, e2⟩
  apply hn
  rw [hz]
  subst e1 e2
  simp only [g, if_true, if_false, ite_self]
theorem own_df14 {on1 sp1 sp2 sp3 sp4 x4 zJ15_0 zJ17_0 : Int32} {k1 k2 k3 k4 : Nat} {z : Int32} (hz : z = (if (if (((x4.toUInt32 >>> ((24 : Int32) &&& 31).toUInt32).toInt32) &&& (1 : Int32)) = (0 : Int32) then (0 : Int32) else (1 : Int32)) = (0 : Int32) then (0 : Int32) else (if on1 = (0 : Int32) then (if zJ15_0 = (0 : Int32) then (if zJ17_0 = (0 : Int32) then (1 : Int32) else (if (Int32.ofNat k3) = (Int32.ofNat k4) then (if sp3 = sp4 then (0 : Int32) else (1 : Int32)) else (1 : Int32))) else (if (Int32.ofNat k2) = (Int32.ofNat k4) then (if sp2 = sp4 then (0 : Int32) else (if zJ17_0 = (0 : Int32) then (1 : Int32) else (if (Int32.ofNat k3) = (Int32.ofNat k4) then (if sp3 = sp4 then (0 : Int32) else (1 : Int32)) else (1 : Int32)))) else (if zJ17_0 = (0 : Int32) then (1 : Int32) else (if (Int32.ofNat k3) = (Int32.ofNat k4) then (if sp3 = sp4 then (0 : Int32) else (1 : Int32)) else (1 : Int32))))) else (if (Int32.ofNat k1) = (Int32.ofNat k4) then (if sp1 = sp4 then (0 : Int32) else (if zJ15_0 = (0 : Int32) then (if zJ17_0 = (0 : Int32) then (1 : Int32) else (if (Int32.ofNat k3) = (Int32.ofNat k4) then (if sp3 = sp4 then (0 : Int32) else (1 : Int32)) else (1 : Int32))) else (if (Int32.ofNat k2) = (Int32.ofNat k4) then (if sp2 = sp4 then (0 : Int32) else (if zJ17_0 = (0 : Int32) then (1 : Int32) else (if (Int32.ofNat k3) = (Int32.ofNat k4) then (if sp3 = sp4 then (0 : Int32) else (1 : Int32)) else (1 : Int32)))) else (if zJ17_0 = (0 : Int32) then (1 : Int32) else (if (Int32.ofNat k3) = (Int32.ofNat k4) then (if sp3 = sp4 then (0 : Int32) else (1 : Int32)) else (1 : Int32)))))) else (if zJ15_0 = (0 : Int32) then (if zJ17_0 = (0 : Int32) then (1 : Int32) else (if (Int32.ofNat k3) = (Int32.ofNat k4) then (if sp3 = sp4 then (0 : Int32) else (1 : Int32)) else (1 : Int32))) else (if (Int32.ofNat k2) = (Int32.ofNat k4) then (if sp2 = sp4 then (0 : Int32) else (if zJ17_0 = (0 : Int32) then (1 : Int32) else (if (Int32.ofNat k3) = (Int32.ofNat k4) then (if sp3 = sp4 then (0 : Int32) else (1 : Int32)) else (1 : Int32)))) else (if zJ17_0 = (0 : Int32) then (1 : Int32) else (if (Int32.ofNat k3) = (Int32.ofNat k4) then (if sp3 = sp4 then (0 : Int32) else (1 : Int32)) else (1 : Int32))))))))) (hn : ¬ z = (0 : Int32)) : ¬ on1 = (0 : Int32) → ¬ (k1 = k4 ∧ sp1 = sp4) := by
  rintro g ⟨e1, e2⟩
  apply hn
  rw [hz]
  subst e1 e2
  simp only [g, if_true, if_false, ite_self]
theorem own_df23 {on1 sp1 sp2 sp3 x3 zJ15_0 : Int32} {k1 k2 k3 : Nat} {z : Int32} (hz : z = (if (if (((x3.toUInt32 >>> ((24 : Int32) &&& 31).toUInt32).toInt32) &&& (1 : Int32)) = (0 : Int32) then (0 : Int32) else (1 : Int32)) = (0 : Int32) then (0 : Int32) else (if on1 = (0 : Int32) then (if zJ15_0 = (0 : Int32) then (1 : Int32) else (if (Int32.ofNat k2) = (Int32.ofNat k3) then (if sp2 = sp3 then (0 : Int32) else (1 : Int32)) else (1 : Int32))) else (if (Int32.ofNat k1) = (Int32.ofNat k3) then (if sp1 = sp3 then (0 : Int32) else (if zJ15_0 = (0 : Int32) then (1 : Int32) else (if (Int32.ofNat k2) = (Int32.ofNat k3) then (if sp2 = sp3 then (0 : Int32) else (1 : Int32)) else (1 : Int32)))) else (if zJ15_0 = (0 : Int32) then (1 : Int32) else (if (Int32.ofNat k2) = (Int32.ofNat k3) then (if sp2 = sp3 then (0 : Int32) else (1 : Int32)) else (1 : Int32))))))) (hn : ¬ z = (0 : Int32)) : ¬ zJ15_0 = (0 : Int32) → ¬ (k2 = k3 ∧ sp2 = sp3) := by
  rintro g ⟨e1, e2⟩
  apply hn
  rw [hz]
  subst e1 e2
  simp only [g, if_true, if_false, ite_self]
theorem own_df24 {on1 sp1 sp2 sp3 sp4 x4 zJ15_0 zJ17_0 : Int32} {k1 k2 k3 k4 : Nat} {z : Int32} (hz : z = (if (if (((x4.toUInt32 >>> ((24 : Int32) &&& 31).toUInt32).toInt32) &&& (1 : Int32)) = (0 : Int32) then (0 : Int32) else (1 : Int32)) = (0 : Int32) then (0 : Int32) else (if on1 = (0 : Int32) then (if zJ15_0 = (0 : Int32) then (if zJ17_0 = (0 : Int32) then (1 : Int32) else (if (Int32.ofNat k3) = (Int32.ofNat k4) then (if sp3 = sp4 then (0 : Int32) else (1 : Int32)) else (1 : Int32))) else (if (Int32.ofNat k2) = (Int32.ofNat k4) then (if sp2 = sp4 then (0 : Int32) else (if zJ17_0 = (0 : Int32) then (1 : Int32) else (if (Int32.ofNat k3) = (Int32.ofNat k4) then (if sp3 = sp4 then (0 : Int32) else (1 : Int32)) else (1 : Int32)))) else (if zJ17_0 = (0 : Int32) then (1 : Int32) else (if (Int32.ofNat k3) = (Int32.ofNat k4) then (if sp3 = sp4 then (0 : Int32) else (1 : Int32)) else (1 : Int32))))) else (if (Int32.ofNat k1) = (Int32.ofNat k4) then (if sp1 = sp4 then (0 : Int32) else (if zJ15_0 = (0 : Int32) then (if zJ17_0 = (0 : Int32) then (1 : Int32) else (if (Int32.ofNat k3) = (Int32.ofNat k4) then (if sp3 = sp4 then (0 : Int32) else (1 : Int32)) else (1 : Int32))) else (if (Int32.ofNat k2) = (Int32.ofNat k4) then (if sp2 = sp4 then (0 : Int32) else (if zJ17_0 = (0 : Int32) then (1 : Int32) else (if (Int32.ofNat k3) = (Int32.ofNat k4) then (if sp3 = sp4 then (0 : Int32) else (1 : Int32)) else (1 : Int32)))) else (if zJ17_0 = (0 : Int32) then (1 : Int32) else (if (Int32.ofNat k3) = (Int32.ofNat k4) then (if sp3 = sp4 then (0 : Int32) else (1 : Int32)) else (1 : Int32)))))) else (if zJ15_0 = (0 : Int32) then (if zJ17_0 = (0 : Int32) then (1 : Int32) else (if (Int32.ofNat k3) = (Int32.ofNat k4) then (if sp3 = sp4 then (0 : Int32) else (1 : Int32)) else (1 : Int32))) else (if (Int32.ofNat k2) = (Int32.ofNat k4) then (if sp2 = sp4 then (0 : Int32) else (if zJ17_0 = (0 : Int32) then (1 : Int32) else (if (Int32.ofNat k3) = (Int32.ofNat k4) then (if sp3 = sp4 then (0 : Int32) else (1 : Int32)) else (1 : Int32)))) else (if zJ17_0 = (0 : Int32) then (1 : Int32) else (if (Int32.ofNat k3) = (Int32.ofNat k4) then (if sp3 = sp4 then (0 : Int32) else (1 : Int32)) else (1 : Int32))))))))) (hn : ¬ z = (0 : Int32)) : ¬ zJ15_0 = (0 : Int32) → ¬ (k2 = k4 ∧ sp2 = sp4) := by
  rintro g ⟨e1, e2⟩
  apply hn
  rw [hz]
  subst e1 e2
  simp only [g, if_true, if_false, ite_self]
theorem own_df34 {on1 sp1 sp2 sp3 sp4 x4 zJ15_0 zJ17_0 : Int32} {k1 k2 k3 k4 : Nat} {z : Int32} (hz : z = (if (if (((x4.toUInt32 >>> ((24 : Int32) &&& 31).toUInt32).toInt32) &&& (1 : Int32)) = (0 : Int32) then (0 : Int32) else (1 : Int32)) = (0 : Int32) then (0 : Int32) else (if on1 = (0 : Int32) then (if zJ15_0 = (0 : Int32) then (if zJ17_0 = (0 : Int32) then (1 : Int32) else (if (Int32.ofNat k3) = (Int32.ofNat k4) then (if sp3 = sp4 then (0 : Int32) else (1 : Int32)) else (1 : Int32))) else (if (Int32.ofNat k2) = (Int32.ofNat k4) then (if sp2 = sp4 then (0 : Int32) else (if zJ17_0 = (0 : Int32) then (1 : Int32) else (if (Int32.ofNat k3) = (Int32.ofNat k4) then (if sp3 = sp4 then (0 : Int32) else (1 : Int32)) else (1 : Int32)))) else (if zJ17_0 = (0 : Int32) then (1 : Int32) else (if (Int32.ofNat k3) = (Int32.ofNat k4) then (if sp3 = sp4 then (0 : Int32) else (1 : Int32)) else (1 : Int32))))) else (if (Int32.ofNat k1) = (Int32.ofNat k4) then (if sp1 = sp4 then (0 : Int32) else (if zJ15_0 = (0 : Int32) then (if zJ17_0 = (0 : Int32) then (1 : Int32) else (if (Int32.ofNat k3) = (Int32.ofNat k4) then (if sp3 = sp4 then (0 : Int32) else (1 : Int32)) else (1 : Int32))) else (if (Int32.ofNat k2) = (Int32.ofNat k4) then (if sp2 = sp4 then (0 : Int32) else (if zJ17_0 = (0 : Int32) then (1 : Int32) else (if (Int32.ofNat k3) = (Int32.ofNat k4) then (if sp3 = sp4 then (0 : Int32) else (1 : Int32)) else (1 : Int32)))) else (if zJ17_0 = (0 : Int32) then (1 : Int32) else (if (Int32.ofNat k3) = (Int32.ofNat k4) then (if sp3 = sp4 then (0 : Int32) else (1 : Int32)) else (1 : Int32)))))) else (if zJ15_0 = (0 : Int32) then (if zJ17_0 = (0 : Int32) then (1 : Int32) else (if (Int32.ofNat k3) = (Int32.ofNat k4) then (if sp3 = sp4 then (0 : Int32) else (1 : Int32)) else (1 : Int32))) else (if (Int32.ofNat k2) = (Int32.ofNat k4) then (if sp2 = sp4 then (0 : Int32) else (if zJ17_0 = (0 : Int32) then (1 : Int32) else (if (Int32.ofNat k3) = (Int32.ofNat k4) then (if sp3 = sp4 then (0 : Int32) else (1 : Int32)) else (1 : Int32)))) else (if zJ17_0 = (0 : Int32) then (1 : Int32) else (if (Int32.ofNat k3) = (Int32.ofNat k4) then (if sp3 = sp4 then (0 : Int32) else (1 : Int32)) else (1 : Int32))))))))) (hn : ¬ z = (0 : Int32)) : ¬ zJ17_0 = (0 : Int32) → ¬ (k3 = k4 ∧ sp3 = sp4) := by
  rintro g ⟨e1, e2⟩
  apply hn
  rw [hz]
  subst e1 e2
  simp only [g, if_true, if_false, ite_self]
theorem own_sz12 {n : Nat} (h : n < 2 ^ 31) (e : n.toInt32 = (12 : Int32)) : n = 12 := by
  have q := len_toInt h
  rw [e] at q
  have d : (12 : Int32).toInt = 12 := by decide
  omega
theorem d1_0 : decode method_5_code 0 = .ok (.iload_n 0, 1) := by decide +kernel
theorem d1_1 : decode method_5_code 1 = .ok (.sipush 255, 3) := by decide +kernel
theorem d1_4 : decode method_5_code 4 = .ok (.iand, 1) := by decide +kernel
theorem d1_5 : decode method_5_code 5 = .ok (.bipush 12, 2) := by decide +kernel
theorem d1_7 : decode method_5_code 7 = .ok (.irem, 1) := by decide +kernel
theorem d1_8 : decode method_5_code 8 = .ok (.ireturn, 1) := by decide +kernel
theorem pn0 : plainName "com/example/tundra_ascent/tundraascent/rules/DisplayPawnsOfPinLaw" = true := by first | (simp [plainName, overriddenIn]; done) | decide +kernel
theorem ef_1 (m : MethodId) (x1 : Int32) : entryFrame m #[(.int x1)] 1 = mkF m 0 #[.val (.int x1)] [] := by first | (simp [entryFrame, mkF, argsToLocals, Value.category]; done) | rfl
def Q1 (Z : State) (x1 : Int32) (h0 : Heap) (n0 : Nat) (v : Option Value) (h : Heap) (L : List Loc) : Prop := v = some (.int ((x1 &&& (255 : Int32)) % (12 : Int32))) ∧ Fr n0 L ∧ h = h0
set_option maxRecDepth 65536 in
set_option maxHeartbeats 40000000 in
theorem rm1 (l : Launch) (Z : State) (a0 : Array Value) (hw : ∀ d ∈ tables_1, d.before a0 Z = true) (x1 : Int32) (h0 : Heap) (n0 : Nat) (Zs : n0 ≤ h0.size)  :
    Con l Z (⟨"com/example/tundra_ascent/tundraascent/rules/DisplayPawnsOfPinLaw", "sec", "(I)I"⟩ : MethodName) method_5_code 1 (some .int) ({ frames := 0, cells := 0, slots := 0, locals := 0 } : Room) #[(.int x1)] h0 (Q1 Z x1 h0 n0) := by
  refine Con.intro (plainFor_of_name pn0) (fun m => ef_1 m x1) ?_
  intro p e s m below meth c s₁ hx hby hml0 hZ hown hnm hret hlk X0 e0
  have hml : c.maxLocals = 1 := hml0
  have N0 := Fr.nil n0
  have Kp : Keep h0 h0 [] := Keep.refl h0 _
  show Go _ _ _ _ _ _ _ (s₁.setTop (mkF m 0 #[.val (.int x1)] []))
  refine Go.of (fun _ q => XS.iloadN X0.here hx rfl (hb hby d1_0) rfl q) ?_
  show Go _ _ _ _ _ _ _ (s₁.setTop (mkF m 1 #[.val (.int x1)] [(.int x1)]))
  refine Go.of (fun _ q => XS.sipush X0.here hx rfl (hb hby d1_1) q) ?_
  show Go _ _ _ _ _ _ _ (s₁.setTop (mkF m 4 #[.val (.int x1)] [(.int (255 : Int32)), (.int x1)]))
  refine Go.of (fun _ q => XS.iand X0.here hx rfl (hb hby d1_4) rfl q) ?_
  show Go _ _ _ _ _ _ _ (s₁.setTop (mkF m 5 #[.val (.int x1)] [(.int (x1 &&& (255 : Int32)))]))
  refine Go.of (fun _ q => XS.bipush X0.here hx rfl (hb hby d1_5) q) ?_
  show Go _ _ _ _ _ _ _ (s₁.setTop (mkF m 7 #[.val (.int x1)] [(.int (12 : Int32)), (.int (x1 &&& (255 : Int32)))]))
  refine Go.of (fun _ q => iremM X0 hx rfl (hb hby d1_7) rfl (by decide) q) ?_
  show Go _ _ _ _ _ _ _ (s₁.setTop (mkF m 8 #[.val (.int x1)] [(.int ((x1 &&& (255 : Int32)) % (12 : Int32)))]))
  refine Go.retI X0 hx hlk hret (hb hby d1_8) (by decide) (by decide) ?_
  rw [e0]
  exact ⟨rfl, N0, rfl⟩
theorem d4_0 : decode method_7_code 0 = .ok (.iload_n 0, 1) := by decide +kernel
theorem d4_1 : decode method_7_code 1 = .ok (.bipush 16, 2) := by decide +kernel
theorem d4_3 : decode method_7_code 3 = .ok (.iushr, 1) := by decide +kernel
theorem d4_4 : decode method_7_code 4 = .ok (.sipush 255, 3) := by decide +kernel
theorem d4_7 : decode method_7_code 7 = .ok (.iand, 1) := by decide +kernel
theorem d4_8 : decode method_7_code 8 = .ok (.bipush 6, 2) := by decide +kernel
theorem d4_10 : decode method_7_code 10 = .ok (.irem, 1) := by decide +kernel
theorem d4_11 : decode method_7_code 11 = .ok (.ireturn, 1) := by decide +kernel
theorem ef_4 (m : MethodId) (x1 : Int32) : entryFrame m #[(.int x1)] 1 = mkF m 0 #[.val (.int x1)] [] := by first | (simp [entryFrame, mkF, argsToLocals, Value.category]; done) | rfl
def Q4 (Z : State) (x1 : Int32) (h0 : Heap) (n0 : Nat) (v : Option Value) (h : Heap) (L : List Loc) : Prop := v = some (.int ((((x1.toUInt32 >>> ((16 : Int32) &&& 31).toUInt32).toInt32) &&& (255 : Int32)) % (6 : Int32))) ∧ Fr n0 L ∧ h = h0
set_option maxRecDepth 65536 in
set_option maxHeartbeats 40000000 in
theorem rm4 (l : Launch) (Z : State) (a0 : Array Value) (hw : ∀ d ∈ tables_1, d.before a0 Z = true) (x1 : Int32) (h0 : Heap) (n0 : Nat) (Zs : n0 ≤ h0.size)  :
    Con l Z (⟨"com/example/tundra_ascent/tundraascent/rules/DisplayPawnsOfPinLaw", "ani", "(I)I"⟩ : MethodName) method_7_code 1 (some .int) ({ frames := 0, cells := 0, slots := 0, locals := 0 } : Room) #[(.int x1)] h0 (Q4 Z x1 h0 n0) := by
  refine Con.intro (plainFor_of_name pn0) (fun m => ef_4 m x1) ?_
  intro p e s m below meth c s₁ hx hby hml0 hZ hown hnm hret hlk X0 e0
  have hml : c.maxLocals = 1 := hml0
  have N0 := Fr.nil n0
  have Kp : Keep h0 h0 [] := Keep.refl h0 _
  show Go _ _ _ _ _ _ _ (s₁.setTop (mkF m 0 #[.val (.int x1)] []))
  refine Go.of (fun _ q => XS.iloadN X0.here hx rfl (hb hby d4_0) rfl q) ?_
  show Go _ _ _ _ _ _ _ (s₁.setTop (mkF m 1 #[.val (.int x1)] [(.int x1)]))
  refine Go.of (fun _ q => XS.bipush X0.here hx rfl (hb hby d4_1) q) ?_
  show Go _ _ _ _ _ _ _ (s₁.setTop (mkF m 3 #[.val (.int x1)] [(.int (16 : Int32)), (.int x1)]))
  refine Go.of (fun _ q => XS.iushr X0.here hx rfl (hb hby d4_3) rfl q) ?_
  show Go _ _ _ _ _ _ _ (s₁.setTop (mkF m 4 #[.val (.int x1)] [(.int ((x1.toUInt32 >>> ((16 : Int32) &&& 31).toUInt32).toInt32))]))
  refine Go.of (fun _ q => XS.sipush X0.here hx rfl (hb hby d4_4) q) ?_
  show Go _ _ _ _ _ _ _ (s₁.setTop (mkF m 7 #[.val (.int x1)] [(.int (255 : Int32)), (.int ((x1.toUInt32 >>> ((16 : Int32) &&& 31).toUInt32).toInt32))]))
  refine Go.of (fun _ q => XS.iand X0.here hx rfl (hb hby d4_7) rfl q) ?_
  show Go _ _ _ _ _ _ _ (s₁.setTop (mkF m 8 #[.val (.int x1)] [(.int (((x1.toUInt32 >>> ((16 : Int32) &&& 31).toUInt32).toInt32) &&& (255 : Int32)))]))
  refine Go.of (fun _ q => XS.bipush X0.here hx rfl (hb hby d4_8) q) ?_
  show Go _ _ _ _ _ _ _ (s₁.setTop (mkF m 10 #[.val (.int x1)] [(.int (6 : Int32)), (.int (((x1.toUInt32 >>> ((16 : Int32) &&& 31).toUInt32).toInt32) &&& (255 : Int32)))]))
  refine Go.of (fun _ q => iremM X0 hx rfl (hb hby d4_10) rfl (by decide) q) ?_
  show Go _ _ _ _ _ _ _ (s₁.setTop (mkF m 11 #[.val (.int x1)] [(.int ((((x1.toUInt32 >>> ((16 : Int32) &&& 31).toUInt32).toInt32) &&& (255 : Int32)) % (6 : Int32)))]))
  refine Go.retI X0 hx hlk hret (hb hby d4_11) (by decide) (by decide) ?_
  rw [e0]
  exact ⟨rfl, N0, rfl⟩
theorem d5_0 : decode method_8_code 0 = .ok (.iload_n 0, 1) := by decide +kernel
theorem d5_1 : decode method_8_code 1 = .ok (.bipush 24, 2) := by decide +kernel
theorem d5_3 : decode method_8_code 3 = .ok (.iushr, 1) := by decide +kernel
theorem d5_4 : decode method_8_code 4 = .ok (.iconst 1, 1) := by decide +kernel
theorem d5_5 : decode method_8_code 5 = .ok (.iand, 1) := by decide +kernel
theorem d5_6 : decode method_8_code 6 = .ok (.ifCond .eq 7, 3) := by decide +kernel
theorem d5_9 : decode method_8_code 9 = .ok (.iconst 1, 1) := by decide +kernel
theorem d5_10 : decode method_8_code 10 = .ok (.goto 4, 3) := by decide +kernel
theorem d5_13 : decode method_8_code 13 = .ok (.iconst 0, 1) := by decide +kernel
theorem d5_14 : decode method_8_code 14 = .ok (.ireturn, 1) := by decide +kernel
theorem ef_5 (m : MethodId) (x1 : Int32) : entryFrame m #[(.int x1)] 1 = mkF m 0 #[.val (.int x1)] [] := by first | (simp [entryFrame, mkF, argsToLocals, Value.category]; done) | rfl
def Q5 (Z : State) (x1 : Int32) (h0 : Heap) (n0 : Nat) (v : Option Value) (h : Heap) (L : List Loc) : Prop := v = some (.int (if (((x1.toUInt32 >>> ((24 : Int32) &&& 31).toUInt32).toInt32) &&& (1 : Int32)) = (0 : Int32) then (0 : Int32) else (1 : Int32))) ∧ Fr n0 L ∧ h = h0
set_option maxRecDepth 65536 in
set_option maxHeartbeats 40000000 in
theorem rm5 (l : Launch) (Z : State) (a0 : Array Value) (hw : ∀ d ∈ tables_1, d.before a0 Z = true) (x1 : Int32) (h0 : Heap) (n0 : Nat) (Zs : n0 ≤ h0.size)  :
    Con l Z (⟨"com/example/tundra_ascent/tundraascent/rules/DisplayPawnsOfPinLaw", "flag", "(I)Z"⟩ : MethodName) method_8_code 1 (some .boolean) ({ frames := 0, cells := 0, slots := 0, locals := 0 } : Room) #[(.int x1)] h0 (Q5 Z x1 h0 n0) := by
  refine Con.intro (plainFor_of_name pn0) (fun m => ef_5 m x1) ?_
  intro p e s m below meth c s₁ hx hby hml0 hZ hown hnm hret hlk X0 e0
  have hml : c.maxLocals = 1 := hml0
  have N0 := Fr.nil n0
  have Kp : Keep h0 h0 [] := Keep.refl h0 _
  show Go _ _ _ _ _ _ _ (s₁.setTop (mkF m 0 #[.val (.int x1)] []))
  refine Go.of (fun _ q => XS.iloadN X0.here hx rfl (hb hby d5_0) rfl q) ?_
  show Go _ _ _ _ _ _ _ (s₁.setTop (mkF m 1 #[.val (.int x1)] [(.int x1)]))
  refine Go.of (fun _ q => XS.bipush X0.here hx rfl (hb hby d5_1) q) ?_
  show Go _ _ _ _ _ _ _ (s₁.setTop (mkF m 3 #[.val (.int x1)] [(.int (24 : Int32)), (.int x1)]))
  refine Go.of (fun _ q => XS.iushr X0.here hx rfl (hb hby d5_3) rfl q) ?_
  show Go _ _ _ _ _ _ _ (s₁.setTop (mkF m 4 #[.val (.int x1)] [(.int ((x1.toUInt32 >>> ((24 : Int32) &&& 31).toUInt32).toInt32))]))
  refine Go.of (fun _ q => XS.iconst X0.here hx rfl (hb hby d5_4) q) ?_
  show Go _ _ _ _ _ _ _ (s₁.setTop (mkF m 5 #[.val (.int x1)] [(.int (1 : Int32)), (.int ((x1.toUInt32 >>> ((24 : Int32) &&& 31).toUInt32).toInt32))]))
  refine Go.of (fun _ q => XS.iand X0.here hx rfl (hb hby d5_5) rfl q) ?_
  show Go _ _ _ _ _ _ _ (s₁.setTop (mkF m 6 #[.val (.int x1)] [(.int (((x1.toUInt32 >>> ((24 : Int32) &&& 31).toUInt32).toInt32) &&& (1 : Int32)))]))
  have J1 : ∀ (zJ1_0 : Int32), zJ1_0 = (if (((x1.toUInt32 >>> ((24 : Int32) &&& 31).toUInt32).toInt32) &&& (1 : Int32)) = (0 : Int32) then (0 : Int32) else (1 : Int32)) → Go p e below s ({ frames := 0, cells := 0, slots := 0, locals := 0 } : Room).cells ({ frames := 0, cells := 0, slots := 0, locals := 0 } : Room).slots (Q5 Z x1 h0 n0) (s₁.setTop (mkF m 14 #[.val (.int x1)] [(.int zJ1_0)])) := by
    intro zJ1_0 hzJ1_0
    subst hzJ1_0
    show Go _ _ _ _ _ _ _ (s₁.setTop (mkF m 14 #[.val (.int x1)] [(.int (if (((x1.toUInt32 >>> ((24 : Int32) &&& 31).toUInt32).toInt32) &&& (1 : Int32)) = (0 : Int32) then (0 : Int32) else (1 : Int32)))]))
    refine Go.retN X0 hx hlk (t := .boolean) hret (by simp) (hb hby d5_14) (by first | rfl | (split <;> rfl) | (repeat' split) <;> rfl) (by decide) (by decide) ?_
    rw [e0]
    exact ⟨rfl, N0, rfl⟩
  by_cases c6 : (((x1.toUInt32 >>> ((24 : Int32) &&& 31).toUInt32).toInt32) &&& (1 : Int32)) = (0 : Int32)
  · refine Go.of (fun _ q => XS.ifYes X0.here hx rfl (pc0 := 6) (pc' := 13) rfl (hb hby d5_6) rfl ((if0 _ _).trans (teq c6).1) (by decide) (by decide) q) ?_
    show Go _ _ _ _ _ _ _ (s₁.setTop (mkF m 13 #[.val (.int x1)] []))
    refine Go.of (fun _ q => XS.iconst X0.here hx rfl (hb hby d5_13) q) ?_
    show Go _ _ _ _ _ _ _ (s₁.setTop (mkF m 14 #[.val (.int x1)] [(.int (0 : Int32))]))
    exact J1 _ (by rw [if_pos c6])
  · refine Go.of (fun _ q => XS.ifNo X0.here hx rfl (hb hby d5_6) rfl ((if0 _ _).trans (feq c6).1) q) ?_
    show Go _ _ _ _ _ _ _ (s₁.setTop (mkF m 9 #[.val (.int x1)] []))
    refine Go.of (fun _ q => XS.iconst X0.here hx rfl (hb hby d5_9) q) ?_
    show Go _ _ _ _ _ _ _ (s₁.setTop (mkF m 10 #[.val (.int x1)] [(.int (1 : Int32))]))
    refine Go.of (fun _ q => XS.goto X0.here hx rfl (pc0 := 10) (pc' := 14) rfl (hb hby d5_10) (by decide) (by decide) q) ?_
    show Go _ _ _ _ _ _ _ (s₁.setTop (mkF m 14 #[.val (.int x1)] [(.int (1 : Int32))]))
    exact J1 _ (by rw [if_neg c6])
theorem d3_0 : decode method_2_code 0 = .ok (.bipush 12, 2) := by decide +kernel
theorem d3_2 : decode method_2_code 2 = .ok (.newarray .int, 2) := by decide +kernel
theorem d3_4 : decode method_2_code 4 = .ok (.dup, 1) := by decide +kernel
theorem d3_5 : decode method_2_code 5 = .ok (.iconst 0, 1) := by decide +kernel
theorem d3_6 : decode method_2_code 6 = .ok (.iconst 1, 1) := by decide +kernel
theorem d3_7 : decode method_2_code 7 = .ok (.iastore, 1) := by decide +kernel
theorem d3_8 : decode method_2_code 8 = .ok (.dup, 1) := by decide +kernel
theorem d3_9 : decode method_2_code 9 = .ok (.iconst 1, 1) := by decide +kernel
theorem d3_10 : decode method_2_code 10 = .ok (.iconst 3, 1) := by decide +kernel
theorem d3_11 : decode method_2_code 11 = .ok (.iastore, 1) := by decide +kernel
theorem d3_12 : decode method_2_code 12 = .ok (.dup, 1) := by decide +kernel
theorem d3_13 : decode method_2_code 13 = .ok (.iconst 2, 1) := by decide +kernel
theorem d3_14 : decode method_2_code 14 = .ok (.iconst 2, 1) := by decide +kernel
theorem d3_15 : decode method_2_code 15 = .ok (.iastore, 1) := by decide +kernel
theorem d3_16 : decode method_2_code 16 = .ok (.dup, 1) := by decide +kernel
theorem d3_17 : decode method_2_code 17 = .ok (.iconst 3, 1) := by decide +kernel
theorem d3_18 : decode method_2_code 18 = .ok (.iconst 2, 1) := by decide +kernel
theorem d3_19 : decode method_2_code 19 = .ok (.iastore, 1) := by decide +kernel
theorem d3_20 : decode method_2_code 20 = .ok (.dup, 1) := by decide +kernel
theorem d3_21 : decode method_2_code 21 = .ok (.iconst 4, 1) := by decide +kernel
theorem d3_22 : decode method_2_code 22 = .ok (.iconst 1, 1) := by decide +kernel
theorem d3_23 : decode method_2_code 23 = .ok (.iastore, 1) := by decide +kernel
theorem d3_24 : decode method_2_code 24 = .ok (.dup, 1) := by decide +kernel
theorem d3_25 : decode method_2_code 25 = .ok (.iconst 5, 1) := by decide +kernel
theorem d3_26 : decode method_2_code 26 = .ok (.iconst 1, 1) := by decide +kernel
theorem d3_27 : decode method_2_code 27 = .ok (.iastore, 1) := by decide +kernel
theorem d3_28 : decode method_2_code 28 = .ok (.dup, 1) := by decide +kernel
theorem d3_29 : decode method_2_code 29 = .ok (.bipush 6, 2) := by decide +kernel
theorem d3_31 : decode method_2_code 31 = .ok (.iconst 4, 1) := by decide +kernel
theorem d3_32 : decode method_2_code 32 = .ok (.iastore, 1) := by decide +kernel
theorem d3_33 : decode method_2_code 33 = .ok (.dup, 1) := by decide +kernel
theorem d3_34 : decode method_2_code 34 = .ok (.bipush 7, 2) := by decide +kernel
theorem d3_36 : decode method_2_code 36 = .ok (.bipush 6, 2) := by decide +kernel
theorem d3_38 : decode method_2_code 38 = .ok (.iastore, 1) := by decide +kernel
theorem d3_39 : decode method_2_code 39 = .ok (.dup, 1) := by decide +kernel
theorem d3_40 : decode method_2_code 40 = .ok (.bipush 8, 2) := by decide +kernel
theorem d3_42 : decode method_2_code 42 = .ok (.iconst 3, 1) := by decide +kernel
theorem d3_43 : decode method_2_code 43 = .ok (.iastore, 1) := by decide +kernel
theorem d3_44 : decode method_2_code 44 = .ok (.dup, 1) := by decide +kernel
theorem d3_45 : decode method_2_code 45 = .ok (.bipush 9, 2) := by decide +kernel
theorem d3_47 : decode method_2_code 47 = .ok (.bipush 6, 2) := by decide +kernel
theorem d3_49 : decode method_2_code 49 = .ok (.iastore, 1) := by decide +kernel
theorem d3_50 : decode method_2_code 50 = .ok (.dup, 1) := by decide +kernel
theorem d3_51 : decode method_2_code 51 = .ok (.bipush 10, 2) := by decide +kernel
theorem d3_53 : decode method_2_code 53 = .ok (.bipush 7, 2) := by decide +kernel
theorem d3_55 : decode method_2_code 55 = .ok (.iastore, 1) := by decide +kernel
theorem d3_56 : decode method_2_code 56 = .ok (.dup, 1) := by decide +kernel
theorem d3_57 : decode method_2_code 57 = .ok (.bipush 11, 2) := by decide +kernel
theorem d3_59 : decode method_2_code 59 = .ok (.iconst 5, 1) := by decide +kernel
theorem d3_60 : decode method_2_code 60 = .ok (.iastore, 1) := by decide +kernel
theorem d3_61 : decode method_2_code 61 = .ok (.astore_n 1, 1) := by decide +kernel
theorem d3_62 : decode method_2_code 62 = .ok (.aload_n 1, 1) := by decide +kernel
theorem d3_63 : decode method_2_code 63 = .ok (.iload_n 0, 1) := by decide +kernel
theorem d3_64 : decode method_2_code 64 = .ok (.iaload, 1) := by decide +kernel
theorem d3_65 : decode method_2_code 65 = .ok (.ireturn, 1) := by decide +kernel
theorem ef_3 (m : MethodId) (x1 : Int32) : entryFrame m #[(.int x1)] 2 = mkF m 0 #[.val (.int x1), .unset] [] := by first | (simp [entryFrame, mkF, argsToLocals, Value.category]; done) | rfl
def Q3 (Z : State) (x1 : Int32) (k : Nat) (h0 : Heap) (n0 : Nat) (v : Option Value) (h : Heap) (L : List Loc) : Prop := v = some (.int (own_szN k)) ∧ Fr n0 L ∧ Keep h0 h []
set_option maxRecDepth 65536 in
set_option maxHeartbeats 40000000 in
theorem rm3 (l : Launch) (Z : State) (a0 : Array Value) (hw : ∀ d ∈ tables_1, d.before a0 Z = true) (x1 : Int32) (k : Nat) (h0 : Heap) (n0 : Nat) (Zs : n0 ≤ h0.size) (hk : k < 12) (hx1 : x1 = Int32.ofNat k) :
    Con l Z (⟨"com/example/tundra_ascent/tundraascent/rules/DisplayPawnsOfPinLaw", "size", "(I)I"⟩ : MethodName) method_2_code 2 (some .int) ({ frames := 0, cells := 1, slots := 12, locals := 0 } : Room) #[(.int x1)] h0 (Q3 Z x1 k h0 n0) := by
  refine Con.intro (plainFor_of_name pn0) (fun m => ef_3 m x1) ?_
  intro p e s m below meth c s₁ hx hby hml0 hZ hown hnm hret hlk X0 e0
  have hml : c.maxLocals = 2 := hml0
  have N0 := Fr.nil n0
  have Kp : Keep h0 h0 [] := Keep.refl h0 _
  show Go _ _ _ _ _ _ _ (s₁.setTop (mkF m 0 #[.val (.int x1), .unset] []))
  refine Go.of (fun _ q => XS.bipush X0.here hx rfl (hb hby d3_0) q) ?_
  show Go _ _ _ _ _ _ _ (s₁.setTop (mkF m 2 #[.val (.int x1), .unset] [(.int (12 : Int32))]))
  obtain ⟨T1, h1, k1, X1, e1, E1, A1, B1, st1⟩ := newPE X0 hx hZ (hw _ (List.mem_of_getElem? (i := 10) rfl)) e0 (g := (mkF m 2 #[.val (.int x1), .unset] [(.int (12 : Int32))])) rfl (hb hby d3_2) rfl (by decide) (cap := 12) (by decide) (by decide) (by decide) (by decide) (ad := "[I") (by decide)
  obtain ⟨b, g1⟩ : ∃ z, z = h0.size := ⟨_, rfl⟩
  rw [← g1] at A1 B1 st1
  refine Go.of st1 ?_
  have g_b : n0 ≤ b := Nat.le_trans Zs (Nat.le_of_eq g1.symm)
  have sz_b : h0.size ≤ b := Nat.le_trans Kp.1 (Nat.le_of_eq g1.symm)
  have Zs := Nat.le_trans Zs E1.1
  have Kp := Kp.ext E1
  have E_b := B1
  have A_b : AF Z h1 b k1 .int 12 (fun i => .int ((fun _ => (0 : Int32)) i)) := AF.new A1 (by decide) rfl rfl
  show Go _ _ _ _ _ _ _ (T1.setTop (mkF m 4 #[.val (.int x1), .unset] [(.ref b)]))
  refine Go.of (fun _ q => XS.dup X1.here hx rfl (hb hby d3_4) rfl rfl q) ?_
  show Go _ _ _ _ _ _ _ (T1.setTop (mkF m 5 #[.val (.int x1), .unset] [(.ref b), (.ref b)]))
  refine Go.of (fun _ q => XS.iconst X1.here hx rfl (hb hby d3_5) q) ?_
  show Go _ _ _ _ _ _ _ (T1.setTop (mkF m 6 #[.val (.int x1), .unset] [(.int (0 : Int32)), (.ref b), (.ref b)]))
  refine Go.of (fun _ q => XS.iconst X1.here hx rfl (hb hby d3_6) q) ?_
  show Go _ _ _ _ _ _ _ (T1.setTop (mkF m 7 #[.val (.int x1), .unset] [(.int (1 : Int32)), (.int (0 : Int32)), (.ref b), (.ref b)]))
  obtain ⟨T2, h2, X2, e2, W2, A2', st2⟩ := AF.iastore A_b X1 hx hZ e1 (i := 0) ⟨rfl, by decide, by decide⟩ (g := (mkF m 7 #[.val (.int x1), .unset] [(.int (1 : Int32)), (.int (0 : Int32)), (.ref b), (.ref b)])) rfl rfl (hb hby d3_7)
  refine Go.of st2 ?_
  have Zs := Nat.le_trans Zs (Nat.le_of_eq W2.size.symm)
  have Kp := Kp.wr W2 (Or.inr sz_b)
  have E_b := E_b.wr W2
  have A_b : AF Z h2 b k1 .int 12 (fun i => .int ((upI (fun _ => (0 : Int32)) 0 (1 : Int32)) i)) := A2'.toI
  have N2 := Fr.snoc X2 N0 g_b
  show Go _ _ _ _ _ _ _ (T2.setTop (mkF m 8 #[.val (.int x1), .unset] [(.ref b)]))
  refine Go.of (fun _ q => XS.dup X2.here hx rfl (hb hby d3_8) rfl rfl q) ?_
  show Go _ _ _ _ _ _ _ (T2.setTop (mkF m 9 #[.val (.int x1), .unset] [(.ref b), (.ref b)]))
  refine Go.of (fun _ q => XS.iconst X2.here hx rfl (hb hby d3_9) q) ?_
  show Go _ _ _ _ _ _ _ (T2.setTop (mkF m 10 #[.val (.int x1), .unset] [(.int (1 : Int32)), (.ref b), (.ref b)]))
  refine Go.of (fun _ q => XS.iconst X2.here hx rfl (hb hby d3_10) q) ?_
  show Go _ _ _ _ _ _ _ (T2.setTop (mkF m 11 #[.val (.int x1), .unset] [(.int (3 : Int32)), (.int (1 : Int32)), (.ref b), (.ref b)]))
  obtain ⟨T3, h3, X3, e3, W3, A3', st3⟩ := AF.iastore A_b X2 hx hZ e2 (i := 1) ⟨rfl, by decide, by decide⟩ (g := (mkF m 11 #[.val (.int x1), .unset] [(.int (3 : Int32)), (.int (1 : Int32)), (.ref b), (.ref b)])) rfl rfl (hb hby d3_11)
  refine Go.of st3 ?_
  have Zs := Nat.le_trans Zs (Nat.le_of_eq W3.size.symm)
  have Kp := Kp.wr W3 (Or.inr sz_b)
  have E_b := E_b.wr W3
  have A_b : AF Z h3 b k1 .int 12 (fun i => .int ((upI (upI (fun _ => (0 : Int32)) 0 (1 : Int32)) 1 (3 : Int32)) i)) := A3'.toI
  have N3 := Fr.snoc X3 N2 g_b
  show Go _ _ _ _ _ _ _ (T3.setTop (mkF m 12 #[.val (.int x1), .unset] [(.ref b)]))
  refine Go.of (fun _ q => XS.dup X3.here hx rfl (hb hby d3_12) rfl rfl q) ?_
  show Go _ _ _ _ _ _ _ (T3.setTop (mkF m 13 #[.val (.int x1), .unset] [(.ref b), (.ref b)]))
  refine Go.of (fun _ q => XS.iconst X3.here hx rfl (hb hby d3_13) q) ?_
  show Go _ _ _ _ _ _ _ (T3.setTop (mkF m 14 #[.val (.int x1), .unset] [(.int (2 : Int32)), (.ref b), (.ref b)]))
  refine Go.of (fun _ q => XS.iconst X3.here hx rfl (hb hby d3_14) q) ?_
  show Go _ _ _ _ _ _ _ (T3.setTop (mkF m 15 #[.val (.int x1), .unset] [(.int (2 : Int32)), (.int (2 : Int32)), (.ref b), (.ref b)]))
  obtain ⟨T4, h4, X4, e4, W4, A4', st4⟩ := AF.iastore A_b X3 hx hZ e3 (i := 2) ⟨rfl, by decide, by decide⟩ (g := (mkF m 15 #[.val (.int x1), .unset] [(.int (2 : Int32)), (.int (2 : Int32)), (.ref b), (.ref b)])) rfl rfl (hb hby d3_15)
  refine Go.of st4 ?_
  have Zs := Nat.le_trans Zs (Nat.le_of_eq W4.size.symm)
  have Kp := Kp.wr W4 (Or.inr sz_b)
  have E_b := E_b.wr W4
  have A_b : AF Z h4 b k1 .int 12 (fun i => .int ((upI (upI (upI (fun _ => (0 : Int32)) 0 (1 : Int32)) 1 (3 : Int32)) 2 (2 : Int32)) i)) := A4'.toI
  have N4 := Fr.snoc X4 N3 g_b
  show Go _ _ _ _ _ _ _ (T4.setTop (mkF m 16 #[.val (.int x1), .unset] [(.ref b)]))
  refine Go.of (fun _ q => XS.dup X4.here hx rfl (hb hby d3_16) rfl rfl q) ?_
  show Go _ _ _ _ _ _ _ (T4.setTop (mkF m 17 #[.val (.int x1), .unset] [(.ref b), (.ref b)]))
  refine Go.of (fun _ q => XS.iconst X4.here hx rfl (hb hby d3_17) q) ?_
  show Go _ _ _ _ _ _ _ (T4.setTop (mkF m 18 #[.val (.int x1), .unset] [(.int (3 : Int32)), (.ref b), (.ref b)]))
  refine Go.of (fun _ q => XS.iconst X4.here hx rfl (hb hby d3_18) q) ?_
  show Go _ _ _ _ _ _ _ (T4.setTop (mkF m 19 #[.val (.int x1), .unset] [(.int (2 : Int32)), (.int (3 : Int32)), (.ref b), (.ref b)]))
  obtain ⟨T5, h5, X5, e5, W5, A5', st5⟩ := AF.iastore A_b X4 hx hZ e4 (i := 3) ⟨rfl, by decide, by decide⟩ (g := (mkF m 19 #[.val (.int x1), .unset] [(.int (2 : Int32)), (.int (3 : Int32)), (.ref b), (.ref b)])) rfl rfl (hb hby d3_19)
  refine Go.of st5 ?_
  have Zs := Nat.le_trans Zs (Nat.le_of_eq W5.size.symm)
  have Kp := Kp.wr W5 (Or.inr sz_b)
  have E_b := E_b.wr W5
  have A_b : AF Z h5 b k1 .int 12 (fun i => .int ((upI (upI (upI (upI (fun _ => (0 : Int32)) 0 (1 : Int32)) 1 (3 : Int32)) 2 (2 : Int32)) 3 (2 : Int32)) i)) := A5'.toI
  have N5 := Fr.snoc X5 N4 g_b
  show Go _ _ _ _ _ _ _ (T5.setTop (mkF m 20 #[.val (.int x1), .unset] [(.ref b)]))
  refine Go.of (fun _ q => XS.dup X5.here hx rfl (hb hby d3_20) rfl rfl q) ?_
  show Go _ _ _ _ _ _ _ (T5.setTop (mkF m 21 #[.val (.int x1), .unset] [(.ref b), (.ref b)]))
  refine Go.of (fun _ q => XS.iconst X5.here hx rfl (hb hby d3_21) q) ?_
  show Go _ _ _ _ _ _ _ (T5.setTop (mkF m 22 #[.val (.int x1), .unset] [(.int (4 : Int32)), (.ref b), (.ref b)]))
  refine Go.of (fun _ q => XS.iconst X5.here hx rfl (hb hby d3_22) q) ?_
  show Go _ _ _ _ _ _ _ (T5.setTop (mkF m 23 #[.val (.int x1), .unset] [(.int (1 : Int32)), (.int (4 : Int32)), (.ref b), (.ref b)]))
  obtain ⟨T6, h6, X6, e6, W6, A6', st6⟩ := AF.iastore A_b X5 hx hZ e5 (i := 4) ⟨rfl, by decide, by decide⟩ (g := (mkF m 23 #[.val (.int x1), .unset] [(.int (1 : Int32)), (.int (4 : Int32)), (.ref b), (.ref b)])) rfl rfl (hb hby d3_23)
  refine Go.of st6 ?_
  have Zs := Nat.le_trans Zs (Nat.le_of_eq W6.size.symm)
  have Kp := Kp.wr W6 (Or.inr sz_b)
  have E_b := E_b.wr W6
  have A_b : AF Z h6 b k1 .int 12 (fun i => .int ((upI (upI (upI (upI (upI (fun _ => (0 : Int32)) 0 (1 : Int32)) 1 (3 : Int32)) 2 (2 : Int32)) 3 (2 : Int32)) 4 (1 : Int32)) i)) := A6'.toI
  have N6 := Fr.snoc X6 N5 g_b
  show Go _ _ _ _ _ _ _ (T6.setTop (mkF m 24 #[.val (.int x1), .unset] [(.ref b)]))
  refine Go.of (fun _ q => XS.dup X6.here hx rfl (hb hby d3_24) rfl rfl q) ?_
  show Go _ _ _ _ _ _ _ (T6.setTop (mkF m 25 #[.val (.int x1), .unset] [(.ref b), (.ref b)]))
  refine Go.of (fun _ q => XS.iconst X6.here hx rfl (hb hby d3_25) q) ?_
  show Go _ _ _ _ _ _ _ (T6.setTop (mkF m 26 #[.val (.int x1), .unset] [(.int (5 : Int32)), (.ref b), (.ref b)]))
  refine Go.of (fun _ q => XS.iconst X6.here hx rfl (hb hby d3_26) q) ?_
  show Go _ _ _ _ _ _ _ (T6.setTop (mkF m 27 #[.val (.int x1), .unset] [(.int (1 : Int32)), (.int (5 : Int32)), (.ref b), (.ref b)]))
  obtain ⟨T7, h7, X7, e7, W7, A7', st7⟩ := AF.iastore A_b X6 hx hZ e6 (i := 5) ⟨rfl, by decide, by decide⟩ (g := (mkF m 27 #[.val (.int x1), .unset] [(.int (1 : Int32)), (.int (5 : Int32)), (.ref b), (.ref b)])) rfl rfl (hb hby d3_27)
  refine Go.of st7 ?_
  have Zs := Nat.le_trans Zs (Nat.le_of_eq W7.size.symm)
  have Kp := Kp.wr W7 (Or.inr sz_b)
  have E_b := E_b.wr W7
  have A_b : AF Z h7 b k1 .int 12 (fun i => .int ((upI (upI (upI (upI (upI (upI (fun _ => (0 : Int32)) 0 (1 : Int32)) 1 (3 : Int32)) 2 (2 : Int32)) 3 (2 : Int32)) 4 (1 : Int32)) 5 (1 : Int32)) i)) := A7'.toI
  have N7 := Fr.snoc X7 N6 g_b
  show Go _ _ _ _ _ _ _ (T7.setTop (mkF m 28 #[.val (.int x1), .unset] [(.ref b)]))
  refine Go.of (fun _ q => XS.dup X7.here hx rfl (hb hby d3_28) rfl rfl q) ?_
  show Go _ _ _ _ _ _ _ (T7.setTop (mkF m 29 #[.val (.int x1), .unset] [(.ref b), (.ref b)]))
  refine Go.of (fun _ q => XS.bipush X7.here hx rfl (hb hby d3_29) q) ?_
  show Go _ _ _ _ _ _ _ (T7.setTop (mkF m 31 #[.val (.int x1), .unset] [(.int (6 : Int32)), (.ref b), (.ref b)]))
  refine Go.of (fun _ q => XS.iconst X7.here hx rfl (hb hby d3_31) q) ?_
  show Go _ _ _ _ _ _ _ (T7.setTop (mkF m 32 #[.val (.int x1), .unset] [(.int (4 : Int32)), (.int (6 : Int32)), (.ref b), (.ref b)]))
  obtain ⟨T8, h8, X8, e8, W8, A8', st8⟩ := AF.iastore A_b X7 hx hZ e7 (i := 6) ⟨rfl, by decide, by decide⟩ (g := (mkF m 32 #[.val (.int x1), .unset] [(.int (4 : Int32)), (.int (6 : Int32)), (.ref b), (.ref b)])) rfl rfl (hb hby d3_32)
  refine Go.of st8 ?_
  have Zs := Nat.le_trans Zs (Nat.le_of_eq W8.size.symm)
  have Kp := Kp.wr W8 (Or.inr sz_b)
  have E_b := E_b.wr W8
  have A_b : AF Z h8 b k1 .int 12 (fun i => .int ((upI (upI (upI (upI (upI (upI (upI (fun _ => (0 : Int32)) 0 (1 : Int32)) 1 (3 : Int32)) 2 (2 : Int32)) 3 (2 : Int32)) 4 (1 : Int32)) 5 (1 : Int32)) 6 (4 : Int32)) i)) := A8'.toI
  have N8 := Fr.snoc X8 N7 g_b
  show Go _ _ _ _ _ _ _ (T8.setTop (mkF m 33 #[.val (.int x1), .unset] [(.ref b)]))
  refine Go.of (fun _ q => XS.dup X8.here hx rfl (hb hby d3_33) rfl rfl q) ?_
  show Go _ _ _ _ _ _ _ (T8.setTop (mkF m 34 #[.val (.int x1), .unset] [(.ref b), (.ref b)]))
  refine Go.of (fun _ q => XS.bipush X8.here hx rfl (hb hby d3_34) q) ?_
  show Go _ _ _ _ _ _ _ (T8.setTop (mkF m 36 #[.val (.int x1), .unset] [(.int (7 : Int32)), (.ref b), (.ref b)]))
  refine Go.of (fun _ q => XS.bipush X8.here hx rfl (hb hby d3_36) q) ?_
  show Go _ _ _ _ _ _ _ (T8.setTop (mkF m 38 #[.val (.int x1), .unset] [(.int (6 : Int32)), (.int (7 : Int32)), (.ref b), (.ref b)]))
  obtain ⟨T9, h9, X9, e9, W9, A9', st9⟩ := AF.iastore A_b X8 hx hZ e8 (i := 7) ⟨rfl, by decide, by decide⟩ (g := (mkF m 38 #[.val (.int x1), .unset] [(.int (6 : Int32)), (.int (7 : Int32)), (.ref b), (.ref b)])) rfl rfl (hb hby d3_38)
  refine Go.of st9 ?_
  have Zs := Nat.le_trans Zs (Nat.le_of_eq W9.size.symm)
  have Kp := Kp.wr W9 (Or.inr sz_b)
  have E_b := E_b.wr W9
  have A_b : AF Z h9 b k1 .int 12 (fun i => .int ((upI (upI (upI (upI (upI (upI (upI (upI (fun _ => (0 : Int32)) 0 (1 : Int32)) 1 (3 : Int32)) 2 (2 : Int32)) 3 (2 : Int32)) 4 (1 : Int32)) 5 (1 : Int32)) 6 (4 : Int32)) 7 (6 : Int32)) i)) := A9'.toI
  have N9 := Fr.snoc X9 N8 g_b
  show Go _ _ _ _ _ _ _ (T9.setTop (mkF m 39 #[.val (.int x1), .unset] [(.ref b)]))
  refine Go.of (fun _ q => XS.dup X9.here hx rfl (hb hby d3_39) rfl rfl q) ?_
  show Go _ _ _ _ _ _ _ (T9.setTop (mkF m 40 #[.val (.int x1), .unset] [(.ref b), (.ref b)]))
  refine Go.of (fun _ q => XS.bipush X9.here hx rfl (hb hby d3_40) q) ?_
  show Go _ _ _ _ _ _ _ (T9.setTop (mkF m 42 #[.val (.int x1), .unset] [(.int (8 : Int32)), (.ref b), (.ref b)]))
  refine Go.of (fun _ q => XS.iconst X9.here hx rfl (hb hby d3_42) q) ?_
  show Go _ _ _ _ _ _ _ (T9.setTop (mkF m 43 #[.val (.int x1), .unset] [(.int (3 : Int32)), (.int (8 : Int32)), (.ref b), (.ref b)]))
  obtain ⟨T10, h10, X10, e10, W10, A10', st10⟩ := AF.iastore A_b X9 hx hZ e9 (i := 8) ⟨rfl, by decide, by decide⟩ (g := (mkF m 43 #[.val (.int x1), .unset] [(.int (3 : Int32)), (.int (8 : Int32)), (.ref b), (.ref b)])) rfl rfl (hb hby d3_43)
  refine Go.of st10 ?_
  have Zs := Nat.le_trans Zs (Nat.le_of_eq W10.size.symm)
  have Kp := Kp.wr W10 (Or.inr sz_b)
  have E_b := E_b.wr W10
  have A_b : AF Z h10 b k1 .int 12 (fun i => .int ((upI (upI (upI (upI (upI (upI (upI (upI (upI (fun _ => (0 : Int32)) 0 (1 : Int32)) 1 (3 : Int32)) 2 (2 : Int32)) 3 (2 : Int32)) 4 (1 : Int32)) 5 (1 : Int32)) 6 (4 : Int32)) 7 (6 : Int32)) 8 (3 : Int32)) i)) := A10'.toI
  have N10 := Fr.snoc X10 N9 g_b
  show Go _ _ _ _ _ _ _ (T10.setTop (mkF m 44 #[.val (.int x1), .unset] [(.ref b)]))
  refine Go.of (fun _ q => XS.dup X10.here hx rfl (hb hby d3_44) rfl rfl q) ?_
  show Go _ _ _ _ _ _ _ (T10.setTop (mkF m 45 #[.val (.int x1), .unset] [(.ref b), (.ref b)]))
  refine Go.of (fun _ q => XS.bipush X10.here hx rfl (hb hby d3_45) q) ?_
  show Go _ _ _ _ _ _ _ (T10.setTop (mkF m 47 #[.val (.int x1), .unset] [(.int (9 : Int32)), (.ref b), (.ref b)]))
  refine Go.of (fun _ q => XS.bipush X10.here hx rfl (hb hby d3_47) q) ?_
  show Go _ _ _ _ _ _ _ (T10.setTop (mkF m 49 #[.val (.int x1), .unset] [(.int (6 : Int32)), (.int (9 : Int32)), (.ref b), (.ref b)]))
  obtain ⟨T11, h11, X11, e11, W11, A11', st11⟩ := AF.iastore A_b X10 hx hZ e10 (i := 9) ⟨rfl, by decide, by decide⟩ (g := (mkF m 49 #[.val (.int x1), .unset] [(.int (6 : Int32)), (.int (9 : Int32)), (.ref b), (.ref b)])) rfl rfl (hb hby d3_49)
  refine Go.of st11 ?_
  have Zs := Nat.le_trans Zs (Nat.le_of_eq W11.size.symm)
  have Kp := Kp.wr W11 (Or.inr sz_b)
  have E_b := E_b.wr W11
  have A_b : AF Z h11 b k1 .int 12 (fun i => .int ((upI (upI (upI (upI (upI (upI (upI (upI (upI (upI (fun _ => (0 : Int32)) 0 (1 : Int32)) 1 (3 : Int32)) 2 (2 : Int32)) 3 (2 : Int32)) 4 (1 : Int32)) 5 (1 : Int32)) 6 (4 : Int32)) 7 (6 : Int32)) 8 (3 : Int32)) 9 (6 : Int32)) i)) := A11'.toI
  have N11 := Fr.snoc X11 N10 g_b
  show Go _ _ _ _ _ _ _ (T11.setTop (mkF m 50 #[.val (.int x1), .unset] [(.ref b)]))
  refine Go.of (fun _ q => XS.dup X11.here hx rfl (hb hby d3_50) rfl rfl q) ?_
  show Go _ _ _ _ _ _ _ (T11.setTop (mkF m 51 #[.val (.int x1), .unset] [(.ref b), (.ref b)]))
  refine Go.of (fun _ q => XS.bipush X11.here hx rfl (hb hby d3_51) q) ?_
  show Go _ _ _ _ _ _ _ (T11.setTop (mkF m 53 #[.val (.int x1), .unset] [(.int (10 : Int32)), (.ref b), (.ref b)]))
  refine Go.of (fun _ q => XS.bipush X11.here hx rfl (hb hby d3_53) q) ?_
  show Go _ _ _ _ _ _ _ (T11.setTop (mkF m 55 #[.val (.int x1), .unset] [(.int (7 : Int32)), (.int (10 : Int32)), (.ref b), (.ref b)]))
  obtain ⟨T12, h12, X12, e12, W12, A12', st12⟩ := AF.iastore A_b X11 hx hZ e11 (i := 10) ⟨rfl, by decide, by decide⟩ (g := (mkF m 55 #[.val (.int x1), .unset] [(.int (7 : Int32)), (.int (10 : Int32)), (.ref b), (.ref b)])) rfl rfl (hb hby d3_55)
  refine Go.of st12 ?_
  have Zs := Nat.le_trans Zs (Nat.le_of_eq W12.size.symm)
  have Kp := Kp.wr W12 (Or.inr sz_b)
  have E_b := E_b.wr W12
  have A_b : AF Z h12 b k1 .int 12 (fun i => .int ((upI (upI (upI (upI (upI (upI (upI (upI (upI (upI (upI (fun _ => (0 : Int32)) 0 (1 : Int32)) 1 (3 : Int32)) 2 (2 : Int32)) 3 (2 : Int32)) 4 (1 : Int32)) 5 (1 : Int32)) 6 (4 : Int32)) 7 (6 : Int32)) 8 (3 : Int32)) 9 (6 : Int32)) 10 (7 : Int32)) i)) := A12'.toI
  have N12 := Fr.snoc X12 N11 g_b
  show Go _ _ _ _ _ _ _ (T12.setTop (mkF m 56 #[.val (.int x1), .unset] [(.ref b)]))
  refine Go.of (fun _ q => XS.dup X12.here hx rfl (hb hby d3_56) rfl rfl q) ?_
  show Go _ _ _ _ _ _ _ (T12.setTop (mkF m 57 #[.val (.int x1), .unset] [(.ref b), (.ref b)]))
  refine Go.of (fun _ q => XS.bipush X12.here hx rfl (hb hby d3_57) q) ?_
  show Go _ _ _ _ _ _ _ (T12.setTop (mkF m 59 #[.val (.int x1), .unset] [(.int (11 : Int32)), (.ref b), (.ref b)]))
  refine Go.of (fun _ q => XS.iconst X12.here hx rfl (hb hby d3_59) q) ?_
  show Go _ _ _ _ _ _ _ (T12.setTop (mkF m 60 #[.val (.int x1), .unset] [(.int (5 : Int32)), (.int (11 : Int32)), (.ref b), (.ref b)]))
  obtain ⟨T13, h13, X13, e13, W13, A13', st13⟩ := AF.iastore A_b X12 hx hZ e12 (i := 11) ⟨rfl, by decide, by decide⟩ (g := (mkF m 60 #[.val (.int x1), .unset] [(.int (5 : Int32)), (.int (11 : Int32)), (.ref b), (.ref b)])) rfl rfl (hb hby d3_60)
  refine Go.of st13 ?_
  have Zs := Nat.le_trans Zs (Nat.le_of_eq W13.size.symm)
  have Kp := Kp.wr W13 (Or.inr sz_b)
  have E_b := E_b.wr W13
  have A_b : AF Z h13 b k1 .int 12 (fun i => .int ((upI (upI (upI (upI (upI (upI (upI (upI (upI (upI (upI (upI (fun _ => (0 : Int32)) 0 (1 : Int32)) 1 (3 : Int32)) 2 (2 : Int32)) 3 (2 : Int32)) 4 (1 : Int32)) 5 (1 : Int32)) 6 (4 : Int32)) 7 (6 : Int32)) 8 (3 : Int32)) 9 (6 : Int32)) 10 (7 : Int32)) 11 (5 : Int32)) i)) := A13'.toI
  have N13 := Fr.snoc X13 N12 g_b
  show Go _ _ _ _ _ _ _ (T13.setTop (mkF m 61 #[.val (.int x1), .unset] [(.ref b)]))
  refine Go.of (fun _ q => XS.astoreN X13.here hx rfl (hb hby d3_61) rfl rfl (l' := #[.val (.int x1), .val (.ref b)]) rfl q) ?_
  show Go _ _ _ _ _ _ _ (T13.setTop (mkF m 62 #[.val (.int x1), .val (.ref b)] []))
  refine Go.of (fun _ q => XS.aloadN X13.here hx rfl (hb hby d3_62) rfl rfl q) ?_
  show Go _ _ _ _ _ _ _ (T13.setTop (mkF m 63 #[.val (.int x1), .val (.ref b)] [(.ref b)]))
  refine Go.of (fun _ q => XS.iloadN X13.here hx rfl (hb hby d3_63) rfl q) ?_
  show Go _ _ _ _ _ _ _ (T13.setTop (mkF m 64 #[.val (.int x1), .val (.ref b)] [(.int x1), (.ref b)]))
  refine Go.of (fun _ q => AF.iaload A_b X13 hx hZ e13 (own_ixk (by decide) hk hx1) (v := (.int (own_szN k))) (by rcases own_12 hk with rfl | rfl | rfl | rfl | rfl | rfl | rfl | rfl | rfl | rfl | rfl | rfl <;> rfl) (g := (mkF m 64 #[.val (.int x1), .val (.ref b)] [(.int x1), (.ref b)])) rfl rfl (hb hby d3_64) q) ?_
  show Go _ _ _ _ _ _ _ (T13.setTop (mkF m 65 #[.val (.int x1), .val (.ref b)] [(.int (own_szN k))]))
  refine Go.retI X13 hx hlk hret (hb hby d3_65) (by decide) (by decide) ?_
  rw [e13]
  exact ⟨rfl, N13, Kp⟩
theorem pd0 : parseMethodDescriptor "(I)I" = some ⟨[.int], some .int⟩ := by decide +kernel
theorem d2_0 : decode method_6_code 0 = .ok (.iconst 1, 1) := by decide +kernel
theorem d2_1 : decode method_6_code 1 = .ok (.iload_n 0, 1) := by decide +kernel
theorem d2_2 : decode method_6_code 2 = .ok (.bipush 8, 2) := by decide +kernel
theorem d2_4 : decode method_6_code 4 = .ok (.iushr, 1) := by decide +kernel
theorem d2_5 : decode method_6_code 5 = .ok (.sipush 255, 3) := by decide +kernel
theorem d2_8 : decode method_6_code 8 = .ok (.iand, 1) := by decide +kernel
theorem d2_9 : decode method_6_code 9 = .ok (.iload_n 1, 1) := by decide +kernel
theorem d2_10 : decode method_6_code 10 = .ok (.invokestatic 67, 3) := by decide +kernel
theorem d2_13 : decode method_6_code 13 = .ok (.irem, 1) := by decide +kernel
theorem d2_14 : decode method_6_code 14 = .ok (.iadd, 1) := by decide +kernel
theorem d2_15 : decode method_6_code 15 = .ok (.ireturn, 1) := by decide +kernel
theorem ef_2 (m : MethodId) (x2 : Int32) (x1 : Int32) : entryFrame m #[(.int x2), (.int x1)] 2 = mkF m 0 #[.val (.int x2), .val (.int x1)] [] := by first | (simp [entryFrame, mkF, argsToLocals, Value.category]; done) | rfl
def Q2 (Z : State) (x2 : Int32) (x1 : Int32) (k : Nat) (h0 : Heap) (n0 : Nat) (v : Option Value) (h : Heap) (L : List Loc) : Prop := v = some (.int ((1 : Int32) + ((((x2.toUInt32 >>> ((8 : Int32) &&& 31).toUInt32).toInt32) &&& (255 : Int32)) % (own_szN k)))) ∧ Fr n0 L ∧ Keep h0 h []
set_option maxRecDepth 65536 in
set_option maxHeartbeats 40000000 in
theorem rm2 (l : Launch) (Z : State) (a0 : Array Value) (hw : ∀ d ∈ tables_1, d.before a0 Z = true) (x2 : Int32) (x1 : Int32) (k : Nat) (h0 : Heap) (n0 : Nat) (Zs : n0 ≤ h0.size) (hk : k < 12) (hx1 : x1 = Int32.ofNat k) :
    Con l Z (⟨"com/example/tundra_ascent/tundraascent/rules/DisplayPawnsOfPinLaw", "space", "(II)I"⟩ : MethodName) method_6_code 2 (some .int) ({ frames := 1, cells := 1, slots := 12, locals := 15 } : Room) #[(.int x2), (.int x1)] h0 (Q2 Z x2 x1 k h0 n0) := by
  refine Con.intro (plainFor_of_name pn0) (fun m => ef_2 m x2 x1) ?_
  intro p e s m below meth c s₁ hx hby hml0 hZ hown hnm hret hlk X0 e0
  have hml : c.maxLocals = 2 := hml0
  have N0 := Fr.nil n0
  have Kp : Keep h0 h0 [] := Keep.refl h0 _
  show Go _ _ _ _ _ _ _ (s₁.setTop (mkF m 0 #[.val (.int x2), .val (.int x1)] []))
  refine Go.of (fun _ q => XS.iconst X0.here hx rfl (hb hby d2_0) q) ?_
  show Go _ _ _ _ _ _ _ (s₁.setTop (mkF m 1 #[.val (.int x2), .val (.int x1)] [(.int (1 : Int32))]))
  refine Go.of (fun _ q => XS.iloadN X0.here hx rfl (hb hby d2_1) rfl q) ?_
  show Go _ _ _ _ _ _ _ (s₁.setTop (mkF m 2 #[.val (.int x2), .val (.int x1)] [(.int x2), (.int (1 : Int32))]))
  refine Go.of (fun _ q => XS.bipush X0.here hx rfl (hb hby d2_2) q) ?_
  show Go _ _ _ _ _ _ _ (s₁.setTop (mkF m 4 #[.val (.int x2), .val (.int x1)] [(.int (8 : Int32)), (.int x2), (.int (1 : Int32))]))
  refine Go.of (fun _ q => XS.iushr X0.here hx rfl (hb hby d2_4) rfl q) ?_
  show Go _ _ _ _ _ _ _ (s₁.setTop (mkF m 5 #[.val (.int x2), .val (.int x1)] [(.int ((x2.toUInt32 >>> ((8 : Int32) &&& 31).toUInt32).toInt32)), (.int (1 : Int32))]))
  refine Go.of (fun _ q => XS.sipush X0.here hx rfl (hb hby d2_5) q) ?_
  show Go _ _ _ _ _ _ _ (s₁.setTop (mkF m 8 #[.val (.int x2), .val (.int x1)] [(.int (255 : Int32)), (.int ((x2.toUInt32 >>> ((8 : Int32) &&& 31).toUInt32).toInt32)), (.int (1 : Int32))]))
  refine Go.of (fun _ q => XS.iand X0.here hx rfl (hb hby d2_8) rfl q) ?_
  show Go _ _ _ _ _ _ _ (s₁.setTop (mkF m 9 #[.val (.int x2), .val (.int x1)] [(.int (((x2.toUInt32 >>> ((8 : Int32) &&& 31).toUInt32).toInt32) &&& (255 : Int32))), (.int (1 : Int32))]))
  refine Go.of (fun _ q => XS.iloadN X0.here hx rfl (hb hby d2_9) rfl q) ?_
  show Go _ _ _ _ _ _ _ (s₁.setTop (mkF m 10 #[.val (.int x2), .val (.int x1)] [(.int x1), (.int (((x2.toUInt32 >>> ((8 : Int32) &&& 31).toUInt32).toInt32) &&& (255 : Int32))), (.int (1 : Int32))]))
  refine Go.static X0 hx hZ (y := (⟨"com/example/tundra_ascent/tundraascent/rules/DisplayPawnsOfPinLaw", "size", "(I)I"⟩ : MethodName)) (argsL := [(.int x1)]) hown (hw _ (List.mem_of_getElem? (i := 7) rfl)) (hw _ (List.mem_of_getElem? (i := 8) rfl)) (hw _ (List.mem_of_getElem? (i := 2) rfl)) (hw _ (List.mem_of_getElem? (i := 9) rfl)) (by decide) 2 e0 (rm3 l Z a0 hw x1 k h0 n0 Zs hk hx1) (by decide) (by decide) (by decide) (by decide) (g := (mkF m 10 #[.val (.int x2), .val (.int x1)] [(.int x1), (.int (((x2.toUInt32 >>> ((8 : Int32) &&& 31).toUInt32).toInt32) &&& (255 : Int32))), (.int (1 : Int32))])) rfl (by rw [hml]; rfl) (rest := [(.int (((x2.toUInt32 >>> ((8 : Int32) &&& 31).toUInt32).toInt32) &&& (255 : Int32))), (.int (1 : Int32))]) (lenOf pd0 rfl) rfl (by show 2 * 0 + _ ≤ _; exact Nat.le_of_eq rfl) (hb hby d2_10) ?_
  intro T1 v1 L1 X1 q1
  obtain ⟨rfl, Nq1, K1⟩ := q1
  have N1 := Fr.app N0 Nq1
  have Zs := Nat.le_trans Zs K1.1
  have Kp := Kp.trans K1 all0
  show Go _ _ _ _ _ _ _ (T1.setTop (mkF m 13 #[.val (.int x2), .val (.int x1)] [(.int (own_szN k)), (.int (((x2.toUInt32 >>> ((8 : Int32) &&& 31).toUInt32).toInt32) &&& (255 : Int32))), (.int (1 : Int32))]))
  refine Go.of (fun _ q => iremM X1 hx rfl (hb hby d2_13) rfl (own_sz0 hk) q) ?_
  show Go _ _ _ _ _ _ _ (T1.setTop (mkF m 14 #[.val (.int x2), .val (.int x1)] [(.int ((((x2.toUInt32 >>> ((8 : Int32) &&& 31).toUInt32).toInt32) &&& (255 : Int32)) % (own_szN k))), (.int (1 : Int32))]))
  refine Go.of (fun _ q => XS.iadd X1.here hx rfl (hb hby d2_14) rfl q) ?_
  show Go _ _ _ _ _ _ _ (T1.setTop (mkF m 15 #[.val (.int x2), .val (.int x1)] [(.int ((1 : Int32) + ((((x2.toUInt32 >>> ((8 : Int32) &&& 31).toUInt32).toInt32) &&& (255 : Int32)) % (own_szN k))))]))
  refine Go.retI X1 hx hlk hret (hb hby d2_15) (by decide) (by decide) ?_
  exact ⟨rfl, N1, Kp⟩
theorem d8_0 : decode method_9_code 0 = .ok (.iload_n 0, 1) := by decide +kernel
theorem d8_1 : decode method_9_code 1 = .ok (.ifCond .eq 12, 3) := by decide +kernel
theorem d8_4 : decode method_9_code 4 = .ok (.iload_n 1, 1) := by decide +kernel
theorem d8_5 : decode method_9_code 5 = .ok (.iload_n 2, 1) := by decide +kernel
theorem d8_6 : decode method_9_code 6 = .ok (.if_icmp .ne 7, 3) := by decide +kernel
theorem d8_9 : decode method_9_code 9 = .ok (.iconst 1, 1) := by decide +kernel
theorem d8_10 : decode method_9_code 10 = .ok (.goto 4, 3) := by decide +kernel
theorem d8_13 : decode method_9_code 13 = .ok (.iconst 0, 1) := by decide +kernel
theorem d8_14 : decode method_9_code 14 = .ok (.ireturn, 1) := by decide +kernel
theorem ef_8 (m : MethodId) (x1 : Int32) (x2 : Int32) (x3 : Int32) : entryFrame m #[(.int x1), (.int x2), (.int x3)] 3 = mkF m 0 #[.val (.int x1), .val (.int x2), .val (.int x3)] [] := by first | (simp [entryFrame, mkF, argsToLocals, Value.category]; done) | rfl
def Q8 (Z : State) (x1 : Int32) (x2 : Int32) (x3 : Int32) (h0 : Heap) (n0 : Nat) (v : Option Value) (h : Heap) (L : List Loc) : Prop := v = some (.int (own_one x1 x2 x3)) ∧ Fr n0 L ∧ h = h0
set_option maxRecDepth 65536 in
set_option maxHeartbeats 40000000 in
theorem rm8 (l : Launch) (Z : State) (a0 : Array Value) (hw : ∀ d ∈ tables_1, d.before a0 Z = true) (x1 : Int32) (x2 : Int32) (x3 : Int32) (h0 : Heap) (n0 : Nat) (Zs : n0 ≤ h0.size)  :
    Con l Z (⟨"com/example/tundra_ascent/tundraascent/rules/DisplayPawnsOfPinLaw", "one", "(ZII)I"⟩ : MethodName) method_9_code 3 (some .int) ({ frames := 0, cells := 0, slots := 0, locals := 0 } : Room) #[(.int x1), (.int x2), (.int x3)] h0 (Q8 Z x1 x2 x3 h0 n0) := by
  refine Con.intro (plainFor_of_name pn0) (fun m => ef_8 m x1 x2 x3) ?_
  intro p e s m below meth c s₁ hx hby hml0 hZ hown hnm hret hlk X0 e0
  have hml : c.maxLocals = 3 := hml0
  have N0 := Fr.nil n0
  have Kp : Keep h0 h0 [] := Keep.refl h0 _
  show Go _ _ _ _ _ _ _ (s₁.setTop (mkF m 0 #[.val (.int x1), .val (.int x2), .val (.int x3)] []))
  refine Go.of (fun _ q => XS.iloadN X0.here hx rfl (hb hby d8_0) rfl q) ?_
  show Go _ _ _ _ _ _ _ (s₁.setTop (mkF m 1 #[.val (.int x1), .val (.int x2), .val (.int x3)] [(.int x1)]))
  by_cases c1 : x1 = (0 : Int32)
  · refine Go.of (fun _ q => XS.ifYes X0.here hx rfl (pc0 := 1) (pc' := 13) rfl (hb hby d8_1) rfl ((if0 _ _).trans (teq c1).1) (by decide) (by decide) q) ?_
    show Go _ _ _ _ _ _ _ (s₁.setTop (mkF m 13 #[.val (.int x1), .val (.int x2), .val (.int x3)] []))
    refine Go.of (fun _ q => XS.iconst X0.here hx rfl (hb hby d8_13) q) ?_
    show Go _ _ _ _ _ _ _ (s₁.setTop (mkF m 14 #[.val (.int x1), .val (.int x2), .val (.int x3)] [(.int (0 : Int32))]))
    refine Go.retI X0 hx hlk hret (hb hby d8_14) (by decide) (by decide) ?_
    rw [e0]
    exact ⟨(by unfold own_one; rw [if_pos c1]), N0, rfl⟩
  · refine Go.of (fun _ q => XS.ifNo X0.here hx rfl (hb hby d8_1) rfl ((if0 _ _).trans (feq c1).1) q) ?_
    show Go _ _ _ _ _ _ _ (s₁.setTop (mkF m 4 #[.val (.int x1), .val (.int x2), .val (.int x3)] []))
    refine Go.of (fun _ q => XS.iloadN X0.here hx rfl (hb hby d8_4) rfl q) ?_
    show Go _ _ _ _ _ _ _ (s₁.setTop (mkF m 5 #[.val (.int x1), .val (.int x2), .val (.int x3)] [(.int x2)]))
    refine Go.of (fun _ q => XS.iloadN X0.here hx rfl (hb hby d8_5) rfl q) ?_
    show Go _ _ _ _ _ _ _ (s₁.setTop (mkF m 6 #[.val (.int x1), .val (.int x2), .val (.int x3)] [(.int x3), (.int x2)]))
    by_cases c6 : x2 = x3
    · refine Go.of (fun _ q => XS.icmpNo X0.here hx rfl (hb hby d8_6) rfl (teq c6).2 q) ?_
      show Go _ _ _ _ _ _ _ (s₁.setTop (mkF m 9 #[.val (.int x1), .val (.int x2), .val (.int x3)] []))
      refine Go.of (fun _ q => XS.iconst X0.here hx rfl (hb hby d8_9) q) ?_
      show Go _ _ _ _ _ _ _ (s₁.setTop (mkF m 10 #[.val (.int x1), .val (.int x2), .val (.int x3)] [(.int (1 : Int32))]))
      refine Go.of (fun _ q => XS.goto X0.here hx rfl (pc0 := 10) (pc' := 14) rfl (hb hby d8_10) (by decide) (by decide) q) ?_
      show Go _ _ _ _ _ _ _ (s₁.setTop (mkF m 14 #[.val (.int x1), .val (.int x2), .val (.int x3)] [(.int (1 : Int32))]))
      refine Go.retI X0 hx hlk hret (hb hby d8_14) (by decide) (by decide) ?_
      rw [e0]
      exact ⟨(by unfold own_one; rw [if_neg c1, if_pos c6]), N0, rfl⟩
    · refine Go.of (fun _ q => XS.icmpYes X0.here hx rfl (pc0 := 6) (pc' := 13) rfl (hb hby d8_6) rfl (feq c6).2 (by decide) (by decide) q) ?_
      show Go _ _ _ _ _ _ _ (s₁.setTop (mkF m 13 #[.val (.int x1), .val (.int x2), .val (.int x3)] []))
      refine Go.of (fun _ q => XS.iconst X0.here hx rfl (hb hby d8_13) q) ?_
      show Go _ _ _ _ _ _ _ (s₁.setTop (mkF m 14 #[.val (.int x1), .val (.int x2), .val (.int x3)] [(.int (0 : Int32))]))
      refine Go.retI X0 hx hlk hret (hb hby d8_14) (by decide) (by decide) ?_
      rw [e0]
      exact ⟨(by unfold own_one; rw [if_neg c1, if_neg c6]), N0, rfl⟩
theorem d9_0 : decode method_4_code 0 = .ok (.iload_n 0, 1) := by decide +kernel
theorem d9_1 : decode method_4_code 1 = .ok (.ifCond .ne 7, 3) := by decide +kernel
theorem d9_4 : decode method_4_code 4 = .ok (.getstatic 46, 3) := by decide +kernel
theorem d9_7 : decode method_4_code 7 = .ok (.areturn, 1) := by decide +kernel
theorem d9_8 : decode method_4_code 8 = .ok (.iload_n 0, 1) := by decide +kernel
theorem d9_9 : decode method_4_code 9 = .ok (.iconst 1, 1) := by decide +kernel
theorem d9_10 : decode method_4_code 10 = .ok (.if_icmp .ne 7, 3) := by decide +kernel
theorem d9_13 : decode method_4_code 13 = .ok (.getstatic 52, 3) := by decide +kernel
theorem d9_16 : decode method_4_code 16 = .ok (.areturn, 1) := by decide +kernel
theorem d9_17 : decode method_4_code 17 = .ok (.iload_n 0, 1) := by decide +kernel
theorem d9_18 : decode method_4_code 18 = .ok (.iconst 2, 1) := by decide +kernel
theorem d9_19 : decode method_4_code 19 = .ok (.if_icmp .ne 7, 3) := by decide +kernel
theorem d9_22 : decode method_4_code 22 = .ok (.getstatic 55, 3) := by decide +kernel
theorem d9_25 : decode method_4_code 25 = .ok (.areturn, 1) := by decide +kernel
theorem d9_26 : decode method_4_code 26 = .ok (.iload_n 0, 1) := by decide +kernel
theorem d9_27 : decode method_4_code 27 = .ok (.iconst 3, 1) := by decide +kernel
theorem d9_28 : decode method_4_code 28 = .ok (.if_icmp .ne 7, 3) := by decide +kernel
theorem d9_31 : decode method_4_code 31 = .ok (.getstatic 58, 3) := by decide +kernel
theorem d9_34 : decode method_4_code 34 = .ok (.areturn, 1) := by decide +kernel
theorem d9_35 : decode method_4_code 35 = .ok (.iload_n 0, 1) := by decide +kernel
theorem d9_36 : decode method_4_code 36 = .ok (.iconst 4, 1) := by decide +kernel
theorem d9_37 : decode method_4_code 37 = .ok (.if_icmp .ne 7, 3) := by decide +kernel
theorem d9_40 : decode method_4_code 40 = .ok (.getstatic 61, 3) := by decide +kernel
theorem d9_43 : decode method_4_code 43 = .ok (.areturn, 1) := by decide +kernel
theorem d9_44 : decode method_4_code 44 = .ok (.getstatic 64, 3) := by decide +kernel
theorem d9_47 : decode method_4_code 47 = .ok (.areturn, 1) := by decide +kernel
theorem ef_9 (m : MethodId) (x1 : Int32) : entryFrame m #[(.int x1)] 1 = mkF m 0 #[.val (.int x1)] [] := by first | (simp [entryFrame, mkF, argsToLocals, Value.category]; done) | rfl
def Q9 (Z : State) (x1 : Int32) (k : Nat) (p0 : Addr) (p1 : Addr) (p2 : Addr) (p3 : Addr) (p4 : Addr) (p5 : Addr) (h0 : Heap) (n0 : Nat) (v : Option Value) (h : Heap) (L : List Loc) : Prop := v = some (.ref (own_an k p0 p1 p2 p3 p4 p5)) ∧ Fr n0 L ∧ h = h0
set_option maxRecDepth 65536 in
set_option maxHeartbeats 40000000 in
theorem rm9 (l : Launch) (Z : State) (a0 : Array Value) (hw : ∀ d ∈ tables_1, d.before a0 Z = true) (x1 : Int32) (k : Nat) (p0 : Addr) (p1 : Addr) (p2 : Addr) (p3 : Addr) (p4 : Addr) (p5 : Addr) (h0 : Heap) (n0 : Nat) (Zs : n0 ≤ h0.size) (Od : Old Z n0 h0) (hk : k < 6) (hx1 : x1 = Int32.ofNat k) (SA_0 : Sta Z Z.heap "com/example/tundra_ascent/tundraascent/rules/Animal" "MAMMALS" "Lcom/example/tundra_ascent/tundraascent/rules/Animal;" (.ref p0)) (SA_1 : Sta Z Z.heap "com/example/tundra_ascent/tundraascent/rules/Animal" "REPTILES" "Lcom/example/tundra_ascent/tundraascent/rules/Animal;" (.ref p1)) (SA_2 : Sta Z Z.heap "com/example/tundra_ascent/tundraascent/rules/Animal" "BIRDS" "Lcom/example/tundra_ascent/tundraascent/rules/Animal;" (.ref p2)) (SA_3 : Sta Z Z.heap "com/example/tundra_ascent/tundraascent/rules/Animal" "AMPHIBIANS" "Lcom/example/tundra_ascent/tundraascent/rules/Animal;" (.ref p3)) (SA_4 : Sta Z Z.heap "com/example/tundra_ascent/tundraascent/rules/Animal" "ARACHNIDS" "Lcom/example/tundra_ascent/tundraascent/rules/Animal;" (.ref p4)) (SA_5 : Sta Z Z.heap "com/example/tundra_ascent/tundraascent/rules/Animal" "INSECTS" "Lcom/example/tundra_ascent/tundraascent/rules/Animal;" (.ref p5)) :
    Con l Z (⟨"com/example/tundra_ascent/tundraascent/rules/DisplayPawnsOfPinLaw", "animal", "(I)Lcom/example/tundra_ascent/tundraascent/rules/Animal;"⟩ : MethodName) method_4_code 1 (some (.object "com/example/tundra_ascent/tundraascent/rules/Animal")) ({ frames := 0, cells := 0, slots := 0, locals := 0 } : Room) #[(.int x1)] h0 (Q9 Z x1 k p0 p1 p2 p3 p4 p5 h0 n0) := by
  refine Con.intro (plainFor_of_name pn0) (fun m => ef_9 m x1) ?_
  intro p e s m below meth c s₁ hx hby hml0 hZ hown hnm hret hlk X0 e0
  have hml : c.maxLocals = 1 := hml0
  have N0 := Fr.nil n0
  have Kp : Keep h0 h0 [] := Keep.refl h0 _
  subst hx1
  rcases own_6 hk with rfl | rfl | rfl | rfl | rfl | rfl
  · show Go _ _ _ _ _ _ _ (s₁.setTop (mkF m 0 #[.val (.int (0 : Int32))] []))
    refine Go.of (fun _ q => XS.iloadN X0.here hx rfl (hb hby d9_0) rfl q) ?_
    show Go _ _ _ _ _ _ _ (s₁.setTop (mkF m 1 #[.val (.int (0 : Int32))] [(.int (0 : Int32))]))
    refine Go.of (fun _ q => XS.ifNo X0.here hx rfl (hb hby d9_1) rfl ((if0 _ _).trans (teq rfl).2) q) ?_
    show Go _ _ _ _ _ _ _ (s₁.setTop (mkF m 4 #[.val (.int (0 : Int32))] []))
    obtain ⟨T1, X1, e1, st1⟩ := getS2 X0 hx hZ hown (host := "") (Or.inl (hw _ (List.mem_of_getElem? (i := 38) rfl))) Via.refl e0 (Sta.ext Od.2 SA_0) (g := (mkF m 4 #[.val (.int (0 : Int32))] [])) rfl (hb hby d9_4)
    refine Go.of st1 ?_
    show Go _ _ _ _ _ _ _ (T1.setTop (mkF m 7 #[.val (.int (0 : Int32))] [(.ref p0)]))
    refine Go.retA X1 hx hlk hret rfl rfl (hb hby d9_7) (by decide) (by decide) ?_
    rw [e1]
    exact ⟨rfl, N0, rfl⟩
  · show Go _ _ _ _ _ _ _ (s₁.setTop (mkF m 0 #[.val (.int (1 : Int32))] []))
    refine Go.of (fun _ q => XS.iloadN X0.here hx rfl (hb hby d9_0) rfl q) ?_
    show Go _ _ _ _ _ _ _ (s₁.setTop (mkF m 1 #[.val (.int (1 : Int32))] [(.int (1 : Int32))]))
    refine Go.of (fun _ q => XS.ifYes X0.here hx rfl (pc0 := 1) (pc' := 8) rfl (hb hby d9_1) rfl ((if0 _ _).trans (feq (by decide)).2) (by decide) (by decide) q) ?_
    show Go _ _ _ _ _ _ _ (s₁.setTop (mkF m 8 #[.val (.int (1 : Int32))] []))
    refine Go.of (fun _ q => XS.iloadN X0.here hx rfl (hb hby d9_8) rfl q) ?_
    show Go _ _ _ _ _ _ _ (s₁.setTop (mkF m 9 #[.val (.int (1 : Int32))] [(.int (1 : Int32))]))
    refine Go.of (fun _ q => XS.iconst X0.here hx rfl (hb hby d9_9) q) ?_
    show Go _ _ _ _ _ _ _ (s₁.setTop (mkF m 10 #[.val (.int (1 : Int32))] [(.int (1 : Int32)), (.int (1 : Int32))]))
    refine Go.of (fun _ q => XS.icmpNo X0.here hx rfl (hb hby d9_10) rfl (teq rfl).2 q) ?_
    show Go _ _ _ _ _ _ _ (s₁.setTop (mkF m 13 #[.val (.int (1 : Int32))] []))
    obtain ⟨T2, X2, e2, st2⟩ := getS2 X0 hx hZ hown (host := "") (Or.inl (hw _ (List.mem_of_getElem? (i := 46) rfl))) Via.refl e0 (Sta.ext Od.2 SA_1) (g := (mkF m 13 #[.val (.int (1 : Int32))] [])) rfl (hb hby d9_13)
    refine Go.of st2 ?_
    show Go _ _ _ _ _ _ _ (T2.setTop (mkF m 16 #[.val (.int (1 : Int32))] [(.ref p1)]))
    refine Go.retA X2 hx hlk hret rfl rfl (hb hby d9_16) (by decide) (by decide) ?_
    rw [e2]
    exact ⟨rfl, N0, rfl⟩
  · show Go _ _ _ _ _ _ _ (s₁.setTop (mkF m 0 #[.val (.int (2 : Int32))] []))
    refine Go.of (fun _ q => XS.iloadN X0.here hx rfl (hb hby d9_0) rfl q) ?_
    show Go _ _ _ _ _ _ _ (s₁.setTop (mkF m 1 #[.val (.int (2 : Int32))] [(.int (2 : Int32))]))
    refine Go.of (fun _ q => XS.ifYes X0.here hx rfl (pc0 := 1) (pc' := 8) rfl (hb hby d9_1) rfl ((if0 _ _).trans (feq (by decide)).2) (by decide) (by decide) q) ?_
    show Go _ _ _ _ _ _ _ (s₁.setTop (mkF m 8 #[.val (.int (2 : Int32))] []))
    refine Go.of (fun _ q => XS.iloadN X0.here hx rfl (hb hby d9_8) rfl q) ?_
    show Go _ _ _ _ _ _ _ (s₁.setTop (mkF m 9 #[.val (.int (2 : Int32))] [(.int (2 : Int32))]))
    refine Go.of (fun _ q => XS.iconst X0.here hx rfl (hb hby d9_9) q) ?_
    show Go _ _ _ _ _ _ _ (s₁.setTop (mkF m 10 #[.val (.int (2 : Int32))] [(.int (1 : Int32)), (.int (2 : Int32))]))
    refine Go.of (fun _ q => XS.icmpYes X0.here hx rfl (pc0 := 10) (pc' := 17) rfl (hb hby d9_10) rfl (feq (by decide)).2 (by decide) (by decide) q) ?_
    show Go _ _ _ _ _ _ _ (s₁.setTop (mkF m 17 #[.val (.int (2 : Int32))] []))
    refine Go.of (fun _ q => XS.iloadN X0.here hx rfl (hb hby d9_17) rfl q) ?_
    show Go _ _ _ _ _ _ _ (s₁.setTop (mkF m 18 #[.val (.int (2 : Int32))] [(.int (2 : Int32))]))
    refine Go.of (fun _ q => XS.iconst X0.here hx rfl (hb hby d9_18) q) ?_
    show Go _ _ _ _ _ _ _ (s₁.setTop (mkF m 19 #[.val (.int (2 : Int32))] [(.int (2 : Int32)), (.int (2 : Int32))]))
    refine Go.of (fun _ q => XS.icmpNo X0.here hx rfl (hb hby d9_19) rfl (teq rfl).2 q) ?_
    show Go _ _ _ _ _ _ _ (s₁.setTop (mkF m 22 #[.val (.int (2 : Int32))] []))
    obtain ⟨T3, X3, e3, st3⟩ := getS2 X0 hx hZ hown (host := "") (Or.inl (hw _ (List.mem_of_getElem? (i := 108) rfl))) Via.refl e0 (Sta.ext Od.2 SA_2) (g := (mkF m 22 #[.val (.int (2 : Int32))] [])) rfl (hb hby d9_22)
    refine Go.of st3 ?_
    show Go _ _ _ _ _ _ _ (T3.setTop (mkF m 25 #[.val (.int (2 : Int32))] [(.ref p2)]))
    refine Go.retA X3 hx hlk hret rfl rfl (hb hby d9_25) (by decide) (by decide) ?_
    rw [e3]
    exact ⟨rfl, N0, rfl⟩
  · show Go _ _ _ _ _ _ _ (s₁.setTop (mkF m 0 #[.val (.int (3 : Int32))] []))
    refine Go.of (fun _ q => XS.iloadN X0.here hx rfl (hb hby d9_0) rfl q) ?_
    show Go _ _ _ _ _ _ _ (s₁.setTop (mkF m 1 #[.val (.int (3 : Int32))] [(.int (3 : Int32))]))
    refine Go.of (fun _ q => XS.ifYes X0.here hx rfl (pc0 := 1) (pc' := 8) rfl (hb hby d9_1) rfl ((if0 _ _).trans (feq (by decide)).2) (by decide) (by decide) q) ?_
    show Go _ _ _ _ _ _ _ (s₁.setTop (mkF m 8 #[.val (.int (3 : Int32))] []))
    refine Go.of (fun _ q => XS.iloadN X0.here hx rfl (hb hby d9_8) rfl q) ?_
    show Go _ _ _ _ _ _ _ (s₁.setTop (mkF m 9 #[.val (.int (3 : Int32))] [(.int (3 : Int32))]))
    refine Go.of (fun _ q => XS.iconst X0.here hx rfl (hb hby d9_9) q) ?_
    show Go _ _ _ _ _ _ _ (s₁.setTop (mkF m 10 #[.val (.int (3 : Int32))] [(.int (1 : Int32)), (.int (3 : Int32))]))
    refine Go.of (fun _ q => XS.icmpYes X0.here hx rfl (pc0 := 10) (pc' := 17) rfl (hb hby d9_10) rfl (feq (by decide)).2 (by decide) (by decide) q) ?_
    show Go _ _ _ _ _ _ _ (s₁.setTop (mkF m 17 #[.val (.int (3 : Int32))] []))
    refine Go.of (fun _ q => XS.iloadN X0.here hx rfl (hb hby d9_17) rfl q) ?_
    show Go _ _ _ _ _ _ _ (s₁.setTop (mkF m 18 #[.val (.int (3 : Int32))] [(.int (3 : Int32))]))
    refine Go.of (fun _ q => XS.iconst X0.here hx rfl (hb hby d9_18) q) ?_
    show Go _ _ _ _ _ _ _ (s₁.setTop (mkF m 19 #[.val (.int (3 : Int32))] [(.int (2 : Int32)), (.int (3 : Int32))]))
    refine Go.of (fun _ q => XS.icmpYes X0.here hx rfl (pc0 := 19) (pc' := 26) rfl (hb hby d9_19) rfl (feq (by decide)).2 (by decide) (by decide) q) ?_
    show Go _ _ _ _ _ _ _ (s₁.setTop (mkF m 26 #[.val (.int (3 : Int32))] []))
    refine Go.of (fun _ q => XS.iloadN X0.here hx rfl (hb hby d9_26) rfl q) ?_
    show Go _ _ _ _ _ _ _ (s₁.setTop (mkF m 27 #[.val (.int (3 : Int32))] [(.int (3 : Int32))]))
    refine Go.of (fun _ q => XS.iconst X0.here hx rfl (hb hby d9_27) q) ?_
    show Go _ _ _ _ _ _ _ (s₁.setTop (mkF m 28 #[.val (.int (3 : Int32))] [(.int (3 : Int32)), (.int (3 : Int32))]))
    refine Go.of (fun _ q => XS.icmpNo X0.here hx rfl (hb hby d9_28) rfl (teq rfl).2 q) ?_
    show Go _ _ _ _ _ _ _ (s₁.setTop (mkF m 31 #[.val (.int (3 : Int32))] []))
    obtain ⟨T4, X4, e4, st4⟩ := getS2 X0 hx hZ hown (host := "") (Or.inl (hw _ (List.mem_of_getElem? (i := 56) rfl))) Via.refl e0 (Sta.ext Od.2 SA_3) (g := (mkF m 31 #[.val (.int (3 : Int32))] [])) rfl (hb hby d9_31)
    refine Go.of st4 ?_
    show Go _ _ _ _ _ _ _ (T4.setTop (mkF m 34 #[.val (.int (3 : Int32))] [(.ref p3)]))
    refine Go.retA X4 hx hlk hret rfl rfl (hb hby d9_34) (by decide) (by decide) ?_
    rw [e4]
    exact ⟨rfl, N0, rfl⟩
  · show Go _ _ _ _ _ _ _ (s₁.setTop (mkF m 0 #[.val (.int (4 : Int32))] []))
    refine Go.of (fun _ q => XS.iloadN X0.here hx rfl (hb hby d9_0) rfl q) ?_
    show Go _ _ _ _ _ _ _ (s₁.setTop (mkF m 1 #[.val (.int (4 : Int32))] [(.int (4 : Int32))]))
    refine Go.of (fun _ q => XS.ifYes X0.here hx rfl (pc0 := 1) (pc' := 8) rfl (hb hby d9_1) rfl ((if0 _ _).trans (feq (by decide)).2) (by decide) (by decide) q) ?_
    show Go _ _ _ _ _ _ _ (s₁.setTop (mkF m 8 #[.val (.int (4 : Int32))] []))
    refine Go.of (fun _ q => XS.iloadN X0.here hx rfl (hb hby d9_8) rfl q) ?_
    show Go _ _ _ _ _ _ _ (s₁.setTop (mkF m 9 #[.val (.int (4 : Int32))] [(.int (4 : Int32))]))
    refine Go.of (fun _ q => XS.iconst X0.here hx rfl (hb hby d9_9) q) ?_
    show Go _ _ _ _ _ _ _ (s₁.setTop (mkF m 10 #[.val (.int (4 : Int32))] [(.int (1 : Int32)), (.int (4 : Int32))]))
    refine Go.of (fun _ q => XS.icmpYes X0.here hx rfl (pc0 := 10) (pc' := 17) rfl (hb hby d9_10) rfl (feq (by decide)).2 (by decide) (by decide) q) ?_
    show Go _ _ _ _ _ _ _ (s₁.setTop (mkF m 17 #[.val (.int (4 : Int32))] []))
    refine Go.of (fun _ q => XS.iloadN X0.here hx rfl (hb hby d9_17) rfl q) ?_
    show Go _ _ _ _ _ _ _ (s₁.setTop (mkF m 18 #[.val (.int (4 : Int32))] [(.int (4 : Int32))]))
    refine Go.of (fun _ q => XS.iconst X0.here hx rfl (hb hby d9_18) q) ?_
    show Go _ _ _ _ _ _ _ (s₁.setTop (mkF m 19 #[.val (.int (4 : Int32))] [(.int (2 : Int32)), (.int (4 : Int32))]))
    refine Go.of (fun _ q => XS.icmpYes X0.here hx rfl (pc0 := 19) (pc' := 26) rfl (hb hby d9_19) rfl (feq (by decide)).2 (by decide) (by decide) q) ?_
    show Go _ _ _ _ _ _ _ (s₁.setTop (mkF m 26 #[.val (.int (4 : Int32))] []))
    refine Go.of (fun _ q => XS.iloadN X0.here hx rfl (hb hby d9_26) rfl q) ?_
    show Go _ _ _ _ _ _ _ (s₁.setTop (mkF m 27 #[.val (.int (4 : Int32))] [(.int (4 : Int32))]))
    refine Go.of (fun _ q => XS.iconst X0.here hx rfl (hb hby d9_27) q) ?_
    show Go _ _ _ _ _ _ _ (s₁.setTop (mkF m 28 #[.val (.int (4 : Int32))] [(.int (3 : Int32)), (.int (4 : Int32))]))
    refine Go.of (fun _ q => XS.icmpYes X0.here hx rfl (pc0 := 28) (pc' := 35) rfl (hb hby d9_28) rfl (feq (by decide)).2 (by decide) (by decide) q) ?_
    show Go _ _ _ _ _ _ _ (s₁.setTop (mkF m 35 #[.val (.int (4 : Int32))] []))
    refine Go.of (fun _ q => XS.iloadN X0.here hx rfl (hb hby d9_35) rfl q) ?_
    show Go _ _ _ _ _ _ _ (s₁.setTop (mkF m 36 #[.val (.int (4 : Int32))] [(.int (4 : Int32))]))
    refine Go.of (fun _ q => XS.iconst X0.here hx rfl (hb hby d9_36) q) ?_
    show Go _ _ _ _ _ _ _ (s₁.setTop (mkF m 37 #[.val (.int (4 : Int32))] [(.int (4 : Int32)), (.int (4 : Int32))]))
    refine Go.of (fun _ q => XS.icmpNo X0.here hx rfl (hb hby d9_37) rfl (teq rfl).2 q) ?_
    show Go _ _ _ _ _ _ _ (s₁.setTop (mkF m 40 #[.val (.int (4 : Int32))] []))
    obtain ⟨T5, X5, e5, st5⟩ := getS2 X0 hx hZ hown (host := "") (Or.inl (hw _ (List.mem_of_getElem? (i := 112) rfl))) Via.refl e0 (Sta.ext Od.2 SA_4) (g := (mkF m 40 #[.val (.int (4 : Int32))] [])) rfl (hb hby d9_40)
    refine Go.of st5 ?_
    show Go _ _ _ _ _ _ _ (T5.setTop (mkF m 43 #[.val (.int (4 : Int32))] [(.ref p4)]))
    refine Go.retA X5 hx hlk hret rfl rfl (hb hby d9_43) (by decide) (by decide) ?_
    rw [e5]
    exact ⟨rfl, N0, rfl⟩
  · show Go _ _ _ _ _ _ _ (s₁.setTop (mkF m 0 #[.val (.int (5 : Int32))] []))
    refine Go.of (fun _ q => XS.iloadN X0.here hx rfl (hb hby d9_0) rfl q) ?_
    show Go _ _ _ _ _ _ _ (s₁.setTop (mkF m 1 #[.val (.int (5 : Int32))] [(.int (5 : Int32))]))
    refine Go.of (fun _ q => XS.ifYes X0.here hx rfl (pc0 := 1) (pc' := 8) rfl (hb hby d9_1) rfl ((if0 _ _).trans (feq (by decide)).2) (by decide) (by decide) q) ?_
    show Go _ _ _ _ _ _ _ (s₁.setTop (mkF m 8 #[.val (.int (5 : Int32))] []))
    refine Go.of (fun _ q => XS.iloadN X0.here hx rfl (hb hby d9_8) rfl q) ?_
    show Go _ _ _ _ _ _ _ (s₁.setTop (mkF m 9 #[.val (.int (5 : Int32))] [(.int (5 : Int32))]))
    refine Go.of (fun _ q => XS.iconst X0.here hx rfl (hb hby d9_9) q) ?_
    show Go _ _ _ _ _ _ _ (s₁.setTop (mkF m 10 #[.val (.int (5 : Int32))] [(.int (1 : Int32)), (.int (5 : Int32))]))
    refine Go.of (fun _ q => XS.icmpYes X0.here hx rfl (pc0 := 10) (pc' := 17) rfl (hb hby d9_10) rfl (feq (by decide)).2 (by decide) (by decide) q) ?_
    show Go _ _ _ _ _ _ _ (s₁.setTop (mkF m 17 #[.val (.int (5 : Int32))] []))
    refine Go.of (fun _ q => XS.iloadN X0.here hx rfl (hb hby d9_17) rfl q) ?_
    show Go _ _ _ _ _ _ _ (s₁.setTop (mkF m 18 #[.val (.int (5 : Int32))] [(.int (5 : Int32))]))
    refine Go.of (fun _ q => XS.iconst X0.here hx rfl (hb hby d9_18) q) ?_
    show Go _ _ _ _ _ _ _ (s₁.setTop (mkF m 19 #[.val (.int (5 : Int32))] [(.int (2 : Int32)), (.int (5 : Int32))]))
    refine Go.of (fun _ q => XS.icmpYes X0.here hx rfl (pc0 := 19) (pc' := 26) rfl (hb hby d9_19) rfl (feq (by decide)).2 (by decide) (by decide) q) ?_
    show Go _ _ _ _ _ _ _ (s₁.setTop (mkF m 26 #[.val (.int (5 : Int32))] []))
    refine Go.of (fun _ q => XS.iloadN X0.here hx rfl (hb hby d9_26) rfl q) ?_
    show Go _ _ _ _ _ _ _ (s₁.setTop (mkF m 27 #[.val (.int (5 : Int32))] [(.int (5 : Int32))]))
    refine Go.of (fun _ q => XS.iconst X0.here hx rfl (hb hby d9_27) q) ?_
    show Go _ _ _ _ _ _ _ (s₁.setTop (mkF m 28 #[.val (.int (5 : Int32))] [(.int (3 : Int32)), (.int (5 : Int32))]))
    refine Go.of (fun _ q => XS.icmpYes X0.here hx rfl (pc0 := 28) (pc' := 35) rfl (hb hby d9_28) rfl (feq (by decide)).2 (by decide) (by decide) q) ?_
    show Go _ _ _ _ _ _ _ (s₁.setTop (mkF m 35 #[.val (.int (5 : Int32))] []))
    refine Go.of (fun _ q => XS.iloadN X0.here hx rfl (hb hby d9_35) rfl q) ?_
    show Go _ _ _ _ _ _ _ (s₁.setTop (mkF m 36 #[.val (.int (5 : Int32))] [(.int (5 : Int32))]))
    refine Go.of (fun _ q => XS.iconst X0.here hx rfl (hb hby d9_36) q) ?_
    show Go _ _ _ _ _ _ _ (s₁.setTop (mkF m 37 #[.val (.int (5 : Int32))] [(.int (4 : Int32)), (.int (5 : Int32))]))
    refine Go.of (fun _ q => XS.icmpYes X0.here hx rfl (pc0 := 37) (pc' := 44) rfl (hb hby d9_37) rfl (feq (by decide)).2 (by decide) (by decide) q) ?_
    show Go _ _ _ _ _ _ _ (s₁.setTop (mkF m 44 #[.val (.int (5 : Int32))] []))
    obtain ⟨T6, X6, e6, st6⟩ := getS2 X0 hx hZ hown (host := "") (Or.inl (hw _ (List.mem_of_getElem? (i := 48) rfl))) Via.refl e0 (Sta.ext Od.2 SA_5) (g := (mkF m 44 #[.val (.int (5 : Int32))] [])) rfl (hb hby d9_44)
    refine Go.of st6 ?_
    show Go _ _ _ _ _ _ _ (T6.setTop (mkF m 47 #[.val (.int (5 : Int32))] [(.ref p5)]))
    refine Go.retA X6 hx hlk hret rfl rfl (hb hby d9_47) (by decide) (by decide) ?_
    rw [e6]
    exact ⟨rfl, N0, rfl⟩
theorem d11_0 : decode method_3_code 0 = .ok (.iload_n 0, 1) := by decide +kernel
theorem d11_1 : decode method_3_code 1 = .ok (.ifCond .ne 7, 3) := by decide +kernel
theorem d11_4 : decode method_3_code 4 = .ok (.getstatic 7, 3) := by decide +kernel
theorem d11_7 : decode method_3_code 7 = .ok (.areturn, 1) := by decide +kernel
theorem d11_8 : decode method_3_code 8 = .ok (.iload_n 0, 1) := by decide +kernel
theorem d11_9 : decode method_3_code 9 = .ok (.iconst 1, 1) := by decide +kernel
theorem d11_10 : decode method_3_code 10 = .ok (.if_icmp .ne 7, 3) := by decide +kernel
theorem d11_13 : decode method_3_code 13 = .ok (.getstatic 13, 3) := by decide +kernel
theorem d11_16 : decode method_3_code 16 = .ok (.areturn, 1) := by decide +kernel
theorem d11_17 : decode method_3_code 17 = .ok (.iload_n 0, 1) := by decide +kernel
theorem d11_18 : decode method_3_code 18 = .ok (.iconst 2, 1) := by decide +kernel
theorem d11_19 : decode method_3_code 19 = .ok (.if_icmp .ne 7, 3) := by decide +kernel
theorem d11_22 : decode method_3_code 22 = .ok (.getstatic 16, 3) := by decide +kernel
theorem d11_25 : decode method_3_code 25 = .ok (.areturn, 1) := by decide +kernel
theorem d11_26 : decode method_3_code 26 = .ok (.iload_n 0, 1) := by decide +kernel
theorem d11_27 : decode method_3_code 27 = .ok (.iconst 3, 1) := by decide +kernel
theorem d11_28 : decode method_3_code 28 = .ok (.if_icmp .ne 7, 3) := by decide +kernel
theorem d11_31 : decode method_3_code 31 = .ok (.getstatic 19, 3) := by decide +kernel
theorem d11_34 : decode method_3_code 34 = .ok (.areturn, 1) := by decide +kernel
theorem d11_35 : decode method_3_code 35 = .ok (.iload_n 0, 1) := by decide +kernel
theorem d11_36 : decode method_3_code 36 = .ok (.iconst 4, 1) := by decide +kernel
theorem d11_37 : decode method_3_code 37 = .ok (.if_icmp .ne 7, 3) := by decide +kernel
theorem d11_40 : decode method_3_code 40 = .ok (.getstatic 22, 3) := by decide +kernel
theorem d11_43 : decode method_3_code 43 = .ok (.areturn, 1) := by decide +kernel
theorem d11_44 : decode method_3_code 44 = .ok (.iload_n 0, 1) := by decide +kernel
theorem d11_45 : decode method_3_code 45 = .ok (.iconst 5, 1) := by decide +kernel
theorem d11_46 : decode method_3_code 46 = .ok (.if_icmp .ne 7, 3) := by decide +kernel
theorem d11_49 : decode method_3_code 49 = .ok (.getstatic 25, 3) := by decide +kernel
theorem d11_52 : decode method_3_code 52 = .ok (.areturn, 1) := by decide +kernel
theorem d11_53 : decode method_3_code 53 = .ok (.iload_n 0, 1) := by decide +kernel
theorem d11_54 : decode method_3_code 54 = .ok (.bipush 6, 2) := by decide +kernel
theorem d11_56 : decode method_3_code 56 = .ok (.if_icmp .ne 7, 3) := by decide +kernel
theorem d11_59 : decode method_3_code 59 = .ok (.getstatic 28, 3) := by decide +kernel
theorem d11_62 : decode method_3_code 62 = .ok (.areturn, 1) := by decide +kernel
theorem d11_63 : decode method_3_code 63 = .ok (.iload_n 0, 1) := by decide +kernel
theorem d11_64 : decode method_3_code 64 = .ok (.bipush 7, 2) := by decide +kernel
theorem d11_66 : decode method_3_code 66 = .ok (.if_icmp .ne 7, 3) := by decide +kernel
theorem d11_69 : decode method_3_code 69 = .ok (.getstatic 31, 3) := by decide +kernel
theorem d11_72 : decode method_3_code 72 = .ok (.areturn, 1) := by decide +kernel
theorem d11_73 : decode method_3_code 73 = .ok (.iload_n 0, 1) := by decide +kernel
theorem d11_74 : decode method_3_code 74 = .ok (.bipush 8, 2) := by decide +kernel
theorem d11_76 : decode method_3_code 76 = .ok (.if_icmp .ne 7, 3) := by decide +kernel
theorem d11_79 : decode method_3_code 79 = .ok (.getstatic 34, 3) := by decide +kernel
theorem d11_82 : decode method_3_code 82 = .ok (.areturn, 1) := by decide +kernel
theorem d11_83 : decode method_3_code 83 = .ok (.iload_n 0, 1) := by decide +kernel
theorem d11_84 : decode method_3_code 84 = .ok (.bipush 9, 2) := by decide +kernel
theorem d11_86 : decode method_3_code 86 = .ok (.if_icmp .ne 7, 3) := by decide +kernel
theorem d11_89 : decode method_3_code 89 = .ok (.getstatic 37, 3) := by decide +kernel
theorem d11_92 : decode method_3_code 92 = .ok (.areturn, 1) := by decide +kernel
theorem d11_93 : decode method_3_code 93 = .ok (.iload_n 0, 1) := by decide +kernel
theorem d11_94 : decode method_3_code 94 = .ok (.bipush 10, 2) := by decide +kernel
theorem d11_96 : decode method_3_code 96 = .ok (.if_icmp .ne 7, 3) := by decide +kernel
theorem d11_99 : decode method_3_code 99 = .ok (.getstatic 40, 3) := by decide +kernel
theorem d11_102 : decode method_3_code 102 = .ok (.areturn, 1) := by decide +kernel
theorem d11_103 : decode method_3_code 103 = .ok (.getstatic 43, 3) := by decide +kernel
theorem d11_106 : decode method_3_code 106 = .ok (.areturn, 1) := by decide +kernel
theorem ef_11 (m : MethodId) (x1 : Int32) : entryFrame m #[(.int x1)] 1 = mkF m 0 #[.val (.int x1)] [] := by first | (simp [entryFrame, mkF, argsToLocals, Value.category]; done) | rfl
def Q11 (Z : State) (x1 : Int32) (k : Nat) (q0 : Addr) (q1 : Addr) (q2 : Addr) (q3 : Addr) (q4 : Addr) (q5 : Addr) (q6 : Addr) (q7 : Addr) (q8 : Addr) (q9 : Addr) (q10 : Addr) (q11 : Addr) (h0 : Heap) (n0 : Nat) (v : Option Value) (h : Heap) (L : List Loc) : Prop := v = some (.ref (own_sec k q0 q1 q2 q3 q4 q5 q6 q7 q8 q9 q10 q11)) ∧ Fr n0 L ∧ h = h0
set_option maxRecDepth 65536 in
set_option maxHeartbeats 40000000 in
theorem rm11 (l : Launch) (Z : State) (a0 : Array Value) (hw : ∀ d ∈ tables_1, d.before a0 Z = true) (x1 : Int32) (k : Nat) (q0 : Addr) (q1 : Addr) (q2 : Addr) (q3 : Addr) (q4 : Addr) (q5 : Addr) (q6 : Addr) (q7 : Addr) (q8 : Addr) (q9 : Addr) (q10 : Addr) (q11 : Addr) (h0 : Heap) (n0 : Nat) (Zs : n0 ≤ h0.size) (Od : Old Z n0 h0) (hk : k < 12) (hx1 : x1 = Int32.ofNat k) (SS_0 : Sta Z Z.heap "com/example/tundra_ascent/tundraascent/rules/Section" "INITIATIVE" "Lcom/example/tundra_ascent/tundraascent/rules/Section;" (.ref q0)) (SS_1 : Sta Z Z.heap "com/example/tundra_ascent/tundraascent/rules/Section" "ADAPTATION" "Lcom/example/tundra_ascent/tundraascent/rules/Section;" (.ref q1)) (SS_2 : Sta Z Z.heap "com/example/tundra_ascent/tundraascent/rules/Section" "REGRESSION" "Lcom/example/tundra_ascent/tundraascent/rules/Section;" (.ref q2)) (SS_3 : Sta Z Z.heap "com/example/tundra_ascent/tundraascent/rules/Section" "ABUNDANCE" "Lcom/example/tundra_ascent/tundraascent/rules/Section;" (.ref q3)) (SS_4 : Sta Z Z.heap "com/example/tundra_ascent/tundraascent/rules/Section" "WASTELAND" "Lcom/example/tundra_ascent/tundraascent/rules/Section;" (.ref q4)) (SS_5 : Sta Z Z.heap "com/example/tundra_ascent/tundraascent/rules/Section" "DEPLETION" "Lcom/example/tundra_ascent/tundraascent/rules/Section;" (.ref q5)) (SS_6 : Sta Z Z.heap "com/example/tundra_ascent/tundraascent/rules/Section" "GLACIATION" "Lcom/example/tundra_ascent/tundraascent/rules/Section;" (.ref q6)) (SS_7 : Sta Z Z.heap "com/example/tundra_ascent/tundraascent/rules/Section" "SPECIATION" "Lcom/example/tundra_ascent/tundraascent/rules/Section;" (.ref q7)) (SS_8 : Sta Z Z.heap "com/example/tundra_ascent/tundraascent/rules/Section" "WANDERLUST" "Lcom/example/tundra_ascent/tundraascent/rules/Section;" (.ref q8)) (SS_9 : Sta Z Z.heap "com/example/tundra_ascent/tundraascent/rules/Section" "MIGRATION" "Lcom/example/tundra_ascent/tundraascent/rules/Section;" (.ref q9)) (SS_10 : Sta Z Z.heap "com/example/tundra_ascent/tundraascent/rules/Section" "COMPETITION" "Lcom/example/tundra_ascent/tundraascent/rules/Section;" (.ref q10)) (SS_11 : Sta Z Z.heap "com/example/tundra_ascent/tundraascent/rules/Section" "DOMINATION" "Lcom/example/tundra_ascent/tundraascent/rules/Section;" (.ref q11)) :
    Con l Z (⟨"com/example/tundra_ascent/tundraascent/rules/DisplayPawnsOfPinLaw", "section", "(I)Lcom/example/tundra_ascent/tundraascent/rules/Section;"⟩ : MethodName) method_3_code 1 (some (.object "com/example/tundra_ascent/tundraascent/rules/Section")) ({ frames := 0, cells := 0, slots := 0, locals := 0 } : Room) #[(.int x1)] h0 (Q11 Z x1 k q0 q1 q2 q3 q4 q5 q6 q7 q8 q9 q10 q11 h0 n0) := by
  refine Con.intro (plainFor_of_name pn0) (fun m => ef_11 m x1) ?_
  intro p e s m below meth c s₁ hx hby hml0 hZ hown hnm hret hlk X0 e0
  have hml : c.maxLocals = 1 := hml0
  have N0 := Fr.nil n0
  have Kp : Keep h0 h0 [] := Keep.refl h0 _
  subst hx1
  rcases own_12 hk with rfl | rfl | rfl | rfl | rfl | rfl | rfl | rfl | rfl | rfl | rfl | rfl
  · show Go _ _ _ _ _ _ _ (s₁.setTop (mkF m 0 #[.val (.int (0 : Int32))] []))
    refine Go.of (fun _ q => XS.iloadN X0.here hx rfl (hb hby d11_0) rfl q) ?_
    show Go _ _ _ _ _ _ _ (s₁.setTop (mkF m 1 #[.val (.int (0 : Int32))] [(.int (0 : Int32))]))
    refine Go.of (fun _ q => XS.ifNo X0.here hx rfl (hb hby d11_1) rfl ((if0 _ _).trans (teq rfl).2) q) ?_
    show Go _ _ _ _ _ _ _ (s₁.setTop (mkF m 4 #[.val (.int (0 : Int32))] []))
    obtain ⟨T1, X1, e1, st1⟩ := getS2 X0 hx hZ hown (host := "") (Or.inl (hw _ (List.mem_of_getElem? (i := 53) rfl))) Via.refl e0 (Sta.ext Od.2 SS_0) (g := (mkF m 4 #[.val (.int (0 : Int32))] [])) rfl (hb hby d11_4)
    refine Go.of st1 ?_
    show Go _ _ _ _ _ _ _ (T1.setTop (mkF m 7 #[.val (.int (0 : Int32))] [(.ref q0)]))
    refine Go.retA X1 hx hlk hret rfl rfl (hb hby d11_7) (by decide) (by decide) ?_
    rw [e1]
    exact ⟨rfl, N0, rfl⟩
  · show Go _ _ _ _ _ _ _ (s₁.setTop (mkF m 0 #[.val (.int (1 : Int32))] []))
    refine Go.of (fun _ q => XS.iloadN X0.here hx rfl (hb hby d11_0) rfl q) ?_
    show Go _ _ _ _ _ _ _ (s₁.setTop (mkF m 1 #[.val (.int (1 : Int32))] [(.int (1 : Int32))]))
    refine Go.of (fun _ q => XS.ifYes X0.here hx rfl (pc0 := 1) (pc' := 8) rfl (hb hby d11_1) rfl ((if0 _ _).trans (feq (by decide)).2) (by decide) (by decide) q) ?_
    show Go _ _ _ _ _ _ _ (s₁.setTop (mkF m 8 #[.val (.int (1 : Int32))] []))
    refine Go.of (fun _ q => XS.iloadN X0.here hx rfl (hb hby d11_8) rfl q) ?_
    show Go _ _ _ _ _ _ _ (s₁.setTop (mkF m 9 #[.val (.int (1 : Int32))] [(.int (1 : Int32))]))
    refine Go.of (fun _ q => XS.iconst X0.here hx rfl (hb hby d11_9) q) ?_
    show Go _ _ _ _ _ _ _ (s₁.setTop (mkF m 10 #[.val (.int (1 : Int32))] [(.int (1 : Int32)), (.int (1 : Int32))]))
    refine Go.of (fun _ q => XS.icmpNo X0.here hx rfl (hb hby d11_10) rfl (teq rfl).2 q) ?_
    show Go _ _ _ _ _ _ _ (s₁.setTop (mkF m 13 #[.val (.int (1 : Int32))] []))
    obtain ⟨T2, X2, e2, st2⟩ := getS2 X0 hx hZ hown (host := "") (Or.inl (hw _ (List.mem_of_getElem? (i := 116) rfl))) Via.refl e0 (Sta.ext Od.2 SS_1) (g := (mkF m 13 #[.val (.int (1 : Int32))] [])) rfl (hb hby d11_13)
    refine Go.of st2 ?_
    show Go _ _ _ _ _ _ _ (T2.setTop (mkF m 16 #[.val (.int (1 : Int32))] [(.ref q1)]))
    refine Go.retA X2 hx hlk hret rfl rfl (hb hby d11_16) (by decide) (by decide) ?_
    rw [e2]
    exact ⟨rfl, N0, rfl⟩
  · show Go _ _ _ _ _ _ _ (s₁.setTop (mkF m 0 #[.val (.int (2 : Int32))] []))
    refine Go.of (fun _ q => XS.iloadN X0.here hx rfl (hb hby d11_0) rfl q) ?_
    show Go _ _ _ _ _ _ _ (s₁.setTop (mkF m 1 #[.val (.int (2 : Int32))] [(.int (2 : Int32))]))
    refine Go.of (fun _ q => XS.ifYes X0.here hx rfl (pc0 := 1) (pc' := 8) rfl (hb hby d11_1) rfl ((if0 _ _).trans (feq (by decide)).2) (by decide) (by decide) q) ?_
    show Go _ _ _ _ _ _ _ (s₁.setTop (mkF m 8 #[.val (.int (2 : Int32))] []))
    refine Go.of (fun _ q => XS.iloadN X0.here hx rfl (hb hby d11_8) rfl q) ?_
    show Go _ _ _ _ _ _ _ (s₁.setTop (mkF m 9 #[.val (.int (2 : Int32))] [(.int (2 : Int32))]))
    refine Go.of (fun _ q => XS.iconst X0.here hx rfl (hb hby d11_9) q) ?_
    show Go _ _ _ _ _ _ _ (s₁.setTop (mkF m 10 #[.val (.int (2 : Int32))] [(.int (1 : Int32)), (.int (2 : Int32))]))
    refine Go.of (fun _ q => XS.icmpYes X0.here hx rfl (pc0 := 10) (pc' := 17) rfl (hb hby d11_10) rfl (feq (by decide)).2 (by decide) (by decide) q) ?_
    show Go _ _ _ _ _ _ _ (s₁.setTop (mkF m 17 #[.val (.int (2 : Int32))] []))
    refine Go.of (fun _ q => XS.iloadN X0.here hx rfl (hb hby d11_17) rfl q) ?_
    show Go _ _ _ _ _ _ _ (s₁.setTop (mkF m 18 #[.val (.int (2 : Int32))] [(.int (2 : Int32))]))
    refine Go.of (fun _ q => XS.iconst X0.here hx rfl (hb hby d11_18) q) ?_
    show Go _ _ _ _ _ _ _ (s₁.setTop (mkF m 19 #[.val (.int (2 : Int32))] [(.int (2 : Int32)), (.int (2 : Int32))]))
    refine Go.of (fun _ q => XS.icmpNo X0.here hx rfl (hb hby d11_19) rfl (teq rfl).2 q) ?_
    show Go _ _ _ _ _ _ _ (s₁.setTop (mkF m 22 #[.val (.int (2 : Int32))] []))
    obtain ⟨T3, X3, e3, st3⟩ := getS2 X0 hx hZ hown (host := "") (Or.inl (hw _ (List.mem_of_getElem? (i := 122) rfl))) Via.refl e0 (Sta.ext Od.2 SS_2) (g := (mkF m 22 #[.val (.int (2 : Int32))] [])) rfl (hb hby d11_22)
    refine Go.of st3 ?_
    show Go _ _ _ _ _ _ _ (T3.setTop (mkF m 25 #[.val (.int (2 : Int32))] [(.ref q2)]))
    refine Go.retA X3 hx hlk hret rfl rfl (hb hby d11_25) (by decide) (by decide) ?_
    rw [e3]
    exact ⟨rfl, N0, rfl⟩
  · show Go _ _ _ _ _ _ _ (s₁.setTop (mkF m 0 #[.val (.int (3 : Int32))] []))
    refine Go.of (fun _ q => XS.iloadN X0.here hx rfl (hb hby d11_0) rfl q) ?_
    show Go _ _ _ _ _ _ _ (s₁.setTop (mkF m 1 #[.val (.int (3 : Int32))] [(.int (3 : Int32))]))
    refine Go.of (fun _ q => XS.ifYes X0.here hx rfl (pc0 := 1) (pc' := 8) rfl (hb hby d11_1) rfl ((if0 _ _).trans (feq (by decide)).2) (by decide) (by decide) q) ?_
    show Go _ _ _ _ _ _ _ (s₁.setTop (mkF m 8 #[.val (.int (3 : Int32))] []))
    refine Go.of (fun _ q => XS.iloadN X0.here hx rfl (hb hby d11_8) rfl q) ?_
    show Go _ _ _ _ _ _ _ (s₁.setTop (mkF m 9 #[.val (.int (3 : Int32))] [(.int (3 : Int32))]))
    refine Go.of (fun _ q => XS.iconst X0.here hx rfl (hb hby d11_9) q) ?_
    show Go _ _ _ _ _ _ _ (s₁.setTop (mkF m 10 #[.val (.int (3 : Int32))] [(.int (1 : Int32)), (.int (3 : Int32))]))
    refine Go.of (fun _ q => XS.icmpYes X0.here hx rfl (pc0 := 10) (pc' := 17) rfl (hb hby d11_10) rfl (feq (by decide)).2 (by decide) (by decide) q) ?_
    show Go _ _ _ _ _ _ _ (s₁.setTop (mkF m 17 #[.val (.int (3 : Int32))] []))
    refine Go.of (fun _ q => XS.iloadN X0.here hx rfl (hb hby d11_17) rfl q) ?_
    show Go _ _ _ _ _ _ _ (s₁.setTop (mkF m 18 #[.val (.int (3 : Int32))] [(.int (3 : Int32))]))
    refine Go.of (fun _ q => XS.iconst X0.here hx rfl (hb hby d11_18) q) ?_
    show Go _ _ _ _ _ _ _ (s₁.setTop (mkF m 19 #[.val (.int (3 : Int32))] [(.int (2 : Int32)), (.int (3 : Int32))]))
    refine Go.of (fun _ q => XS.icmpYes X0.here hx rfl (pc0 := 19) (pc' := 26) rfl (hb hby d11_19) rfl (feq (by decide)).2 (by decide) (by decide) q) ?_
    show Go _ _ _ _ _ _ _ (s₁.setTop (mkF m 26 #[.val (.int (3 : Int32))] []))
    refine Go.of (fun _ q => XS.iloadN X0.here hx rfl (hb hby d11_26) rfl q) ?_
    show Go _ _ _ _ _ _ _ (s₁.setTop (mkF m 27 #[.val (.int (3 : Int32))] [(.int (3 : Int32))]))
    refine Go.of (fun _ q => XS.iconst X0.here hx rfl (hb hby d11_27) q) ?_
    show Go _ _ _ _ _ _ _ (s₁.setTop (mkF m 28 #[.val (.int (3 : Int32))] [(.int (3 : Int32)), (.int (3 : Int32))]))
    refine Go.of (fun _ q => XS.icmpNo X0.here hx rfl (hb hby d11_28) rfl (teq rfl).2 q) ?_
    show Go _ _ _ _ _ _ _ (s₁.setTop (mkF m 31 #[.val (.int (3 : Int32))] []))
    obtain ⟨T4, X4, e4, st4⟩ := getS2 X0 hx hZ hown (host := "") (Or.inl (hw _ (List.mem_of_getElem? (i := 100) rfl))) Via.refl e0 (Sta.ext Od.2 SS_3) (g := (mkF m 31 #[.val (.int (3 : Int32))] [])) rfl (hb hby d11_31)
    refine Go.of st4 ?_
    show Go _ _ _ _ _ _ _ (T4.setTop (mkF m 34 #[.val (.int (3 : Int32))] [(.ref q3)]))
    refine Go.retA X4 hx hlk hret rfl rfl (hb hby d11_34) (by decide) (by decide) ?_
    rw [e4]
    exact ⟨rfl, N0, rfl⟩
  · show Go _ _ _ _ _ _ _ (s₁.setTop (mkF m 0 #[.val (.int (4 : Int32))] []))
    refine Go.of (fun _ q => XS.iloadN X0.here hx rfl (hb hby d11_0) rfl q) ?_
    show Go _ _ _ _ _ _ _ (s₁.setTop (mkF m 1 #[.val (.int (4 : Int32))] [(.int (4 : Int32))]))
    refine Go.of (fun _ q => XS.ifYes X0.here hx rfl (pc0 := 1) (pc' := 8) rfl (hb hby d11_1) rfl ((if0 _ _).trans (feq (by decide)).2) (by decide) (by decide) q) ?_
    show Go _ _ _ _ _ _ _ (s₁.setTop (mkF m 8 #[.val (.int (4 : Int32))] []))
    refine Go.of (fun _ q => XS.iloadN X0.here hx rfl (hb hby d11_8) rfl q) ?_
    show Go _ _ _ _ _ _ _ (s₁.setTop (mkF m 9 #[.val (.int (4 : Int32))] [(.int (4 : Int32))]))
    refine Go.of (fun _ q => XS.iconst X0.here hx rfl (hb hby d11_9) q) ?_
    show Go _ _ _ _ _ _ _ (s₁.setTop (mkF m 10 #[.val (.int (4 : Int32))] [(.int (1 : Int32)), (.int (4 : Int32))]))
    refine Go.of (fun _ q => XS.icmpYes X0.here hx rfl (pc0 := 10) (pc' := 17) rfl (hb hby d11_10) rfl (feq (by decide)).2 (by decide) (by decide) q) ?_
    show Go _ _ _ _ _ _ _ (s₁.setTop (mkF m 17 #[.val (.int (4 : Int32))] []))
    refine Go.of (fun _ q => XS.iloadN X0.here hx rfl (hb hby d11_17) rfl q) ?_
    show Go _ _ _ _ _ _ _ (s₁.setTop (mkF m 18 #[.val (.int (4 : Int32))] [(.int (4 : Int32))]))
    refine Go.of (fun _ q => XS.iconst X0.here hx rfl (hb hby d11_18) q) ?_
    show Go _ _ _ _ _ _ _ (s₁.setTop (mkF m 19 #[.val (.int (4 : Int32))] [(.int (2 : Int32)), (.int (4 : Int32))]))
    refine Go.of (fun _ q => XS.icmpYes X0.here hx rfl (pc0 := 19) (pc' := 26) rfl (hb hby d11_19) rfl (feq (by decide)).2 (by decide) (by decide) q) ?_
    show Go _ _ _ _ _ _ _ (s₁.setTop (mkF m 26 #[.val (.int (4 : Int32))] []))
    refine Go.of (fun _ q => XS.iloadN X0.here hx rfl (hb hby d11_26) rfl q) ?_
    show Go _ _ _ _ _ _ _ (s₁.setTop (mkF m 27 #[.val (.int (4 : Int32))] [(.int (4 : Int32))]))
    refine Go.of (fun _ q => XS.iconst X0.here hx rfl (hb hby d11_27) q) ?_
    show Go _ _ _ _ _ _ _ (s₁.setTop (mkF m 28 #[.val (.int (4 : Int32))] [(.int (3 : Int32)), (.int (4 : Int32))]))
    refine Go.of (fun _ q => XS.icmpYes X0.here hx rfl (pc0 := 28) (pc' := 35) rfl (hb hby d11_28) rfl (feq (by decide)).2 (by decide) (by decide) q) ?_
    show Go _ _ _ _ _ _ _ (s₁.setTop (mkF m 35 #[.val (.int (4 : Int32))] []))
    refine Go.of (fun _ q => XS.iloadN X0.here hx rfl (hb hby d11_35) rfl q) ?_
    show Go _ _ _ _ _ _ _ (s₁.setTop (mkF m 36 #[.val (.int (4 : Int32))] [(.int (4 : Int32))]))
    refine Go.of (fun _ q => XS.iconst X0.here hx rfl (hb hby d11_36) q) ?_
    show Go _ _ _ _ _ _ _ (s₁.setTop (mkF m 37 #[.val (.int (4 : Int32))] [(.int (4 : Int32)), (.int (4 : Int32))]))
    refine Go.of (fun _ q => XS.icmpNo X0.here hx rfl (hb hby d11_37) rfl (teq rfl).2 q) ?_
    show Go _ _ _ _ _ _ _ (s₁.setTop (mkF m 40 #[.val (.int (4 : Int32))] []))
    obtain ⟨T5, X5, e5, st5⟩ := getS2 X0 hx hZ hown (host := "") (Or.inl (hw _ (List.mem_of_getElem? (i := 104) rfl))) Via.refl e0 (Sta.ext Od.2 SS_4) (g := (mkF m 40 #[.val (.int (4 : Int32))] [])) rfl (hb hby d11_40)
    refine Go.of st5 ?_
    show Go _ _ _ _ _ _ _ (T5.setTop (mkF m 43 #[.val (.int (4 : Int32))] [(.ref q4)]))
    refine Go.retA X5 hx hlk hret rfl rfl (hb hby d11_43) (by decide) (by decide) ?_
    rw [e5]
    exact ⟨rfl, N0, rfl⟩
  · show Go _ _ _ _ _ _ _ (s₁.setTop (mkF m 0 #[.val (.int (5 : Int32))] []))
    refine Go.of (fun _ q => XS.iloadN X0.here hx rfl (hb hby d11_0) rfl q) ?_
    show Go _ _ _ _ _ _ _ (s₁.setTop (mkF m 1 #[.val (.int (5 : Int32))] [(.int (5 : Int32))]))
    refine Go.of (fun _ q => XS.ifYes X0.here hx rfl (pc0 := 1) (pc' := 8) rfl (hb hby d11_1) rfl ((if0 _ _).trans (feq (by decide)).2) (by decide) (by decide) q) ?_
    show Go _ _ _ _ _ _ _ (s₁.setTop (mkF m 8 #[.val (.int (5 : Int32))] []))
    refine Go.of (fun _ q => XS.iloadN X0.here hx rfl (hb hby d11_8) rfl q) ?_
    show Go _ _ _ _ _ _ _ (s₁.setTop (mkF m 9 #[.val (.int (5 : Int32))] [(.int (5 : Int32))]))
    refine Go.of (fun _ q => XS.iconst X0.here hx rfl (hb hby d11_9) q) ?_
    show Go _ _ _ _ _ _ _ (s₁.setTop (mkF m 10 #[.val (.int (5 : Int32))] [(.int (1 : Int32)), (.int (5 : Int32))]))
    refine Go.of (fun _ q => XS.icmpYes X0.here hx rfl (pc0 := 10) (pc' := 17) rfl (hb hby d11_10) rfl (feq (by decide)).2 (by decide) (by decide) q) ?_
    show Go _ _ _ _ _ _ _ (s₁.setTop (mkF m 17 #[.val (.int (5 : Int32))] []))
    refine Go.of (fun _ q => XS.iloadN X0.here hx rfl (hb hby d11_17) rfl q) ?_
    show Go _ _ _ _ _ _ _ (s₁.setTop (mkF m 18 #[.val (.int (5 : Int32))] [(.int (5 : Int32))]))
    refine Go.of (fun _ q => XS.iconst X0.here hx rfl (hb hby d11_18) q) ?_
    show Go _ _ _ _ _ _ _ (s₁.setTop (mkF m 19 #[.val (.int (5 : Int32))] [(.int (2 : Int32)), (.int (5 : Int32))]))
    refine Go.of (fun _ q => XS.icmpYes X0.here hx rfl (pc0 := 19) (pc' := 26) rfl (hb hby d11_19) rfl (feq (by decide)).2 (by decide) (by decide) q) ?_
    show Go _ _ _ _ _ _ _ (s₁.setTop (mkF m 26 #[.val (.int (5 : Int32))] []))
    refine Go.of (fun _ q => XS.iloadN X0.here hx rfl (hb hby d11_26) rfl q) ?_
    show Go _ _ _ _ _ _ _ (s₁.setTop (mkF m 27 #[.val (.int (5 : Int32))] [(.int (5 : Int32))]))
    refine Go.of (fun _ q => XS.iconst X0.here hx rfl (hb hby d11_27) q) ?_
    show Go _ _ _ _ _ _ _ (s₁.setTop (mkF m 28 #[.val (.int (5 : Int32))] [(.int (3 : Int32)), (.int (5 : Int32))]))
    refine Go.of (fun _ q => XS.icmpYes X0.here hx rfl (pc0 := 28) (pc' := 35) rfl (hb hby d11_28) rfl (feq (by decide)).2 (by decide) (by decide) q) ?_
    show Go _ _ _ _ _ _ _ (s₁.setTop (mkF m 35 #[.val (.int (5 : Int32))] []))
    refine Go.of (fun _ q => XS.iloadN X0.here hx rfl (hb hby d11_35) rfl q) ?_
    show Go _ _ _ _ _ _ _ (s₁.setTop (mkF m 36 #[.val (.int (5 : Int32))] [(.int (5 : Int32))]))
    refine Go.of (fun _ q => XS.iconst X0.here hx rfl (hb hby d11_36) q) ?_
    show Go _ _ _ _ _ _ _ (s₁.setTop (mkF m 37 #[.val (.int (5 : Int32))] [(.int (4 : Int32)), (.int (5 : Int32))]))
    refine Go.of (fun _ q => XS.icmpYes X0.here hx rfl (pc0 := 37) (pc' := 44) rfl (hb hby d11_37) rfl (feq (by decide)).2 (by decide) (by decide) q) ?_
    show Go _ _ _ _ _ _ _ (s₁.setTop (mkF m 44 #[.val (.int (5 : Int32))] []))
    refine Go.of (fun _ q => XS.iloadN X0.here hx rfl (hb hby d11_44) rfl q) ?_
    show Go _ _ _ _ _ _ _ (s₁.setTop (mkF m 45 #[.val (.int (5 : Int32))] [(.int (5 : Int32))]))
    refine Go.of (fun _ q => XS.iconst X0.here hx rfl (hb hby d11_45) q) ?_
    show Go _ _ _ _ _ _ _ (s₁.setTop (mkF m 46 #[.val (.int (5 : Int32))] [(.int (5 : Int32)), (.int (5 : Int32))]))
    refine Go.of (fun _ q => XS.icmpNo X0.here hx rfl (hb hby d11_46) rfl (teq rfl).2 q) ?_
    show Go _ _ _ _ _ _ _ (s₁.setTop (mkF m 49 #[.val (.int (5 : Int32))] []))
    obtain ⟨T6, X6, e6, st6⟩ := getS2 X0 hx hZ hown (host := "") (Or.inl (hw _ (List.mem_of_getElem? (i := 118) rfl))) Via.refl e0 (Sta.ext Od.2 SS_5) (g := (mkF m 49 #[.val (.int (5 : Int32))] [])) rfl (hb hby d11_49)
    refine Go.of st6 ?_
    show Go _ _ _ _ _ _ _ (T6.setTop (mkF m 52 #[.val (.int (5 : Int32))] [(.ref q5)]))
    refine Go.retA X6 hx hlk hret rfl rfl (hb hby d11_52) (by decide) (by decide) ?_
    rw [e6]
    exact ⟨rfl, N0, rfl⟩
  · show Go _ _ _ _ _ _ _ (s₁.setTop (mkF m 0 #[.val (.int (6 : Int32))] []))
    refine Go.of (fun _ q => XS.iloadN X0.here hx rfl (hb hby d11_0) rfl q) ?_
    show Go _ _ _ _ _ _ _ (s₁.setTop (mkF m 1 #[.val (.int (6 : Int32))] [(.int (6 : Int32))]))
    refine Go.of (fun _ q => XS.ifYes X0.here hx rfl (pc0 := 1) (pc' := 8) rfl (hb hby d11_1) rfl ((if0 _ _).trans (feq (by decide)).2) (by decide) (by decide) q) ?_
    show Go _ _ _ _ _ _ _ (s₁.setTop (mkF m 8 #[.val (.int (6 : Int32))] []))
    refine Go.of (fun _ q => XS.iloadN X0.here hx rfl (hb hby d11_8) rfl q) ?_
    show Go _ _ _ _ _ _ _ (s₁.setTop (mkF m 9 #[.val (.int (6 : Int32))] [(.int (6 : Int32))]))
    refine Go.of (fun _ q => XS.iconst X0.here hx rfl (hb hby d11_9) q) ?_
    show Go _ _ _ _ _ _ _ (s₁.setTop (mkF m 10 #[.val (.int (6 : Int32))] [(.int (1 : Int32)), (.int (6 : Int32))]))
    refine Go.of (fun _ q => XS.icmpYes X0.here hx rfl (pc0 := 10) (pc' := 17) rfl (hb hby d11_10) rfl (feq (by decide)).2 (by decide) (by decide) q) ?_
    show Go _ _ _ _ _ _ _ (s₁.setTop (mkF m 17 #[.val (.int (6 : Int32))] []))
    refine Go.of (fun _ q => XS.iloadN X0.here hx rfl (hb hby d11_17) rfl q) ?_
    show Go _ _ _ _ _ _ _ (s₁.setTop (mkF m 18 #[.val (.int (6 : Int32))] [(.int (6 : Int32))]))
    refine Go.of (fun _ q => XS.iconst X0.here hx rfl (hb hby d11_18) q) ?_
    show Go _ _ _ _ _ _ _ (s₁.setTop (mkF m 19 #[.val (.int (6 : Int32))] [(.int (2 : Int32)), (.int (6 : Int32))]))
    refine Go.of (fun _ q => XS.icmpYes X0.here hx rfl (pc0 := 19) (pc' := 26) rfl (hb hby d11_19) rfl (feq (by decide)).2 (by decide) (by decide) q) ?_
    show Go _ _ _ _ _ _ _ (s₁.setTop (mkF m 26 #[.val (.int (6 : Int32))] []))
    refine Go.of (fun _ q => XS.iloadN X0.here hx rfl (hb hby d11_26) rfl q) ?_
    show Go _ _ _ _ _ _ _ (s₁.setTop (mkF m 27 #[.val (.int (6 : Int32))] [(.int (6 : Int32))]))
    refine Go.of (fun _ q => XS.iconst X0.here hx rfl (hb hby d11_27) q) ?_
    show Go _ _ _ _ _ _ _ (s₁.setTop (mkF m 28 #[.val (.int (6 : Int32))] [(.int (3 : Int32)), (.int (6 : Int32))]))
    refine Go.of (fun _ q => XS.icmpYes X0.here hx rfl (pc0 := 28) (pc' := 35) rfl (hb hby d11_28) rfl (feq (by decide)).2 (by decide) (by decide) q) ?_
    show Go _ _ _ _ _ _ _ (s₁.setTop (mkF m 35 #[.val (.int (6 : Int32))] []))
    refine Go.of (fun _ q => XS.iloadN X0.here hx rfl (hb hby d11_35) rfl q) ?_
    show Go _ _ _ _ _ _ _ (s₁.setTop (mkF m 36 #[.val (.int (6 : Int32))] [(.int (6 : Int32))]))
    refine Go.of (fun _ q => XS.iconst X0.here hx rfl (hb hby d11_36) q) ?_
    show Go _ _ _ _ _ _ _ (s₁.setTop (mkF m 37 #[.val (.int (6 : Int32))] [(.int (4 : Int32)), (.int (6 : Int32))]))
    refine Go.of (fun _ q => XS.icmpYes X0.here hx rfl (pc0 := 37) (pc' := 44) rfl (hb hby d11_37) rfl (feq (by decide)).2 (by decide) (by decide) q) ?_
    show Go _ _ _ _ _ _ _ (s₁.setTop (mkF m 44 #[.val (.int (6 : Int32))] []))
    refine Go.of (fun _ q => XS.iloadN X0.here hx rfl (hb hby d11_44) rfl q) ?_
    show Go _ _ _ _ _ _ _ (s₁.setTop (mkF m 45 #[.val (.int (6 : Int32))] [(.int (6 : Int32))]))
    refine Go.of (fun _ q => XS.iconst X0.here hx rfl (hb hby d11_45) q) ?_
    show Go _ _ _ _ _ _ _ (s₁.setTop (mkF m 46 #[.val (.int (6 : Int32))] [(.int (5 : Int32)), (.int (6 : Int32))]))
    refine Go.of (fun _ q => XS.icmpYes X0.here hx rfl (pc0 := 46) (pc' := 53) rfl (hb hby d11_46) rfl (feq (by decide)).2 (by decide) (by decide) q) ?_
    show Go _ _ _ _ _ _ _ (s₁.setTop (mkF m 53 #[.val (.int (6 : Int32))] []))
    refine Go.of (fun _ q => XS.iloadN X0.here hx rfl (hb hby d11_53) rfl q) ?_
    show Go _ _ _ _ _ _ _ (s₁.setTop (mkF m 54 #[.val (.int (6 : Int32))] [(.int (6 : Int32))]))
    refine Go.of (fun _ q => XS.bipush X0.here hx rfl (hb hby d11_54) q) ?_
    show Go _ _ _ _ _ _ _ (s₁.setTop (mkF m 56 #[.val (.int (6 : Int32))] [(.int (6 : Int32)), (.int (6 : Int32))]))
    refine Go.of (fun _ q => XS.icmpNo X0.here hx rfl (hb hby d11_56) rfl (teq rfl).2 q) ?_
    show Go _ _ _ _ _ _ _ (s₁.setTop (mkF m 59 #[.val (.int (6 : Int32))] []))
    obtain ⟨T7, X7, e7, st7⟩ := getS2 X0 hx hZ hown (host := "") (Or.inl (hw _ (List.mem_of_getElem? (i := 124) rfl))) Via.refl e0 (Sta.ext Od.2 SS_6) (g := (mkF m 59 #[.val (.int (6 : Int32))] [])) rfl (hb hby d11_59)
    refine Go.of st7 ?_
    show Go _ _ _ _ _ _ _ (T7.setTop (mkF m 62 #[.val (.int (6 : Int32))] [(.ref q6)]))
    refine Go.retA X7 hx hlk hret rfl rfl (hb hby d11_62) (by decide) (by decide) ?_
    rw [e7]
    exact ⟨rfl, N0, rfl⟩
  · show Go _ _ _ _ _ _ _ (s₁.setTop (mkF m 0 #[.val (.int (7 : Int32))] []))
    refine Go.of (fun _ q => XS.iloadN X0.here hx rfl (hb hby d11_0) rfl q) ?_
    show Go _ _ _ _ _ _ _ (s₁.setTop (mkF m 1 #[.val (.int (7 : Int32))] [(.int (7 : Int32))]))
    refine Go.of (fun _ q => XS.ifYes X0.here hx rfl (pc0 := 1) (pc' := 8) rfl (hb hby d11_1) rfl ((if0 _ _).trans (feq (by decide)).2) (by decide) (by decide) q) ?_
    show Go _ _ _ _ _ _ _ (s₁.setTop (mkF m 8 #[.val (.int (7 : Int32))] []))
    refine Go.of (fun _ q => XS.iloadN X0.here hx rfl (hb hby d11_8) rfl q) ?_
    show Go _ _ _ _ _ _ _ (s₁.setTop (mkF m 9 #[.val (.int (7 : Int32))] [(.int (7 : Int32))]))
    refine Go.of (fun _ q => XS.iconst X0.here hx rfl (hb hby d11_9) q) ?_
    show Go _ _ _ _ _ _ _ (s₁.setTop (mkF m 10 #[.val (.int (7 : Int32))] [(.int (1 : Int32)), (.int (7 : Int32))]))
    refine Go.of (fun _ q => XS.icmpYes X0.here hx rfl (pc0 := 10) (pc' := 17) rfl (hb hby d11_10) rfl (feq (by decide)).2 (by decide) (by decide) q) ?_
    show Go _ _ _ _ _ _ _ (s₁.setTop (mkF m 17 #[.val (.int (7 : Int32))] []))
    refine Go.of (fun _ q => XS.iloadN X0.here hx rfl (hb hby d11_17) rfl q) ?_
    show Go _ _ _ _ _ _ _ (s₁.setTop (mkF m 18 #[.val (.int (7 : Int32))] [(.int (7 : Int32))]))
    refine Go.of (fun _ q => XS.iconst X0.here hx rfl (hb hby d11_18) q) ?_
    show Go _ _ _ _ _ _ _ (s₁.setTop (mkF m 19 #[.val (.int (7 : Int32))] [(.int (2 : Int32)), (.int (7 : Int32))]))
    refine Go.of (fun _ q => XS.icmpYes X0.here hx rfl (pc0 := 19) (pc' := 26) rfl (hb hby d11_19) rfl (feq (by decide)).2 (by decide) (by decide) q) ?_
    show Go _ _ _ _ _ _ _ (s₁.setTop (mkF m 26 #[.val (.int (7 : Int32))] []))
    refine Go.of (fun _ q => XS.iloadN X0.here hx rfl (hb hby d11_26) rfl q) ?_
    show Go _ _ _ _ _ _ _ (s₁.setTop (mkF m 27 #[.val (.int (7 : Int32))] [(.int (7 : Int32))]))
    refine Go.of (fun _ q => XS.iconst X0.here hx rfl (hb hby d11_27) q) ?_
    show Go _ _ _ _ _ _ _ (s₁.setTop (mkF m 28 #[.val (.int (7 : Int32))] [(.int (3 : Int32)), (.int (7 : Int32))]))
    refine Go.of (fun _ q => XS.icmpYes X0.here hx rfl (pc0 := 28) (pc' := 35) rfl (hb hby d11_28) rfl (feq (by decide)).2 (by decide) (by decide) q) ?_
    show Go _ _ _ _ _ _ _ (s₁.setTop (mkF m 35 #[.val (.int (7 : Int32))] []))
    refine Go.of (fun _ q => XS.iloadN X0.here hx rfl (hb hby d11_35) rfl q) ?_
    show Go _ _ _ _ _ _ _ (s₁.setTop (mkF m 36 #[.val (.int (7 : Int32))] [(.int (7 : Int32))]))
    refine Go.of (fun _ q => XS.iconst X0.here hx rfl (hb hby d11_36) q) ?_
    show Go _ _ _ _ _ _ _ (s₁.setTop (mkF m 37 #[.val (.int (7 : Int32))] [(.int (4 : Int32)), (.int (7 : Int32))]))
    refine Go.of (fun _ q => XS.icmpYes X0.here hx rfl (pc0 := 37) (pc' := 44) rfl (hb hby d11_37) rfl (feq (by decide)).2 (by decide) (by decide) q) ?_
    show Go _ _ _ _ _ _ _ (s₁.setTop (mkF m 44 #[.val (.int (7 : Int32))] []))
    refine Go.of (fun _ q => XS.iloadN X0.here hx rfl (hb hby d11_44) rfl q) ?_
    show Go _ _ _ _ _ _ _ (s₁.setTop (mkF m 45 #[.val (.int (7 : Int32))] [(.int (7 : Int32))]))
    refine Go.of (fun _ q => XS.iconst X0.here hx rfl (hb hby d11_45) q) ?_
    show Go _ _ _ _ _ _ _ (s₁.setTop (mkF m 46 #[.val (.int (7 : Int32))] [(.int (5 : Int32)), (.int (7 : Int32))]))
    refine Go.of (fun _ q => XS.icmpYes X0.here hx rfl (pc0 := 46) (pc' := 53) rfl (hb hby d11_46) rfl (feq (by decide)).2 (by decide) (by decide) q) ?_
    show Go _ _ _ _ _ _ _ (s₁.setTop (mkF m 53 #[.val (.int (7 : Int32))] []))
    refine Go.of (fun _ q => XS.iloadN X0.here hx rfl (hb hby d11_53) rfl q) ?_
    show Go _ _ _ _ _ _ _ (s₁.setTop (mkF m 54 #[.val (.int (7 : Int32))] [(.int (7 : Int32))]))
    refine Go.of (fun _ q => XS.bipush X0.here hx rfl (hb hby d11_54) q) ?_
    show Go _ _ _ _ _ _ _ (s₁.setTop (mkF m 56 #[.val (.int (7 : Int32))] [(.int (6 : Int32)), (.int (7 : Int32))]))
    refine Go.of (fun _ q => XS.icmpYes X0.here hx rfl (pc0 := 56) (pc' := 63) rfl (hb hby d11_56) rfl (feq (by decide)).2 (by decide) (by decide) q) ?_
    show Go _ _ _ _ _ _ _ (s₁.setTop (mkF m 63 #[.val (.int (7 : Int32))] []))
    refine Go.of (fun _ q => XS.iloadN X0.here hx rfl (hb hby d11_63) rfl q) ?_
    show Go _ _ _ _ _ _ _ (s₁.setTop (mkF m 64 #[.val (.int (7 : Int32))] [(.int (7 : Int32))]))
    refine Go.of (fun _ q => XS.bipush X0.here hx rfl (hb hby d11_64) q) ?_
    show Go _ _ _ _ _ _ _ (s₁.setTop (mkF m 66 #[.val (.int (7 : Int32))] [(.int (7 : Int32)), (.int (7 : Int32))]))
    refine Go.of (fun _ q => XS.icmpNo X0.here hx rfl (hb hby d11_66) rfl (teq rfl).2 q) ?_
    show Go _ _ _ _ _ _ _ (s₁.setTop (mkF m 69 #[.val (.int (7 : Int32))] []))
    obtain ⟨T8, X8, e8, st8⟩ := getS2 X0 hx hZ hown (host := "") (Or.inl (hw _ (List.mem_of_getElem? (i := 110) rfl))) Via.refl e0 (Sta.ext Od.2 SS_7) (g := (mkF m 69 #[.val (.int (7 : Int32))] [])) rfl (hb hby d11_69)
    refine Go.of st8 ?_
    show Go _ _ _ _ _ _ _ (T8.setTop (mkF m 72 #[.val (.int (7 : Int32))] [(.ref q7)]))
    refine Go.retA X8 hx hlk hret rfl rfl (hb hby d11_72) (by decide) (by decide) ?_
    rw [e8]
    exact ⟨rfl, N0, rfl⟩
  · show Go _ _ _ _ _ _ _ (s₁.setTop (mkF m 0 #[.val (.int (8 : Int32))] []))
    refine Go.of (fun _ q => XS.iloadN X0.here hx rfl (hb hby d11_0) rfl q) ?_
    show Go _ _ _ _ _ _ _ (s₁.setTop (mkF m 1 #[.val (.int (8 : Int32))] [(.int (8 : Int32))]))
    refine Go.of (fun _ q => XS.ifYes X0.here hx rfl (pc0 := 1) (pc' := 8) rfl (hb hby d11_1) rfl ((if0 _ _).trans (feq (by decide)).2) (by decide) (by decide) q) ?_
    show Go _ _ _ _ _ _ _ (s₁.setTop (mkF m 8 #[.val (.int (8 : Int32))] []))
    refine Go.of (fun _ q => XS.iloadN X0.here hx rfl (hb hby d11_8) rfl q) ?_
    show Go _ _ _ _ _ _ _ (s₁.setTop (mkF m 9 #[.val (.int (8 : Int32))] [(.int (8 : Int32))]))
    refine Go.of (fun _ q => XS.iconst X0.here hx rfl (hb hby d11_9) q) ?_
    show Go _ _ _ _ _ _ _ (s₁.setTop (mkF m 10 #[.val (.int (8 : Int32))] [(.int (1 : Int32)), (.int (8 : Int32))]))
    refine Go.of (fun _ q => XS.icmpYes X0.here hx rfl (pc0 := 10) (pc' := 17) rfl (hb hby d11_10) rfl (feq (by decide)).2 (by decide) (by decide) q) ?_
    show Go _ _ _ _ _ _ _ (s₁.setTop (mkF m 17 #[.val (.int (8 : Int32))] []))
    refine Go.of (fun _ q => XS.iloadN X0.here hx rfl (hb hby d11_17) rfl q) ?_
    show Go _ _ _ _ _ _ _ (s₁.setTop (mkF m 18 #[.val (.int (8 : Int32))] [(.int (8 : Int32))]))
    refine Go.of (fun _ q => XS.iconst X0.here hx rfl (hb hby d11_18) q) ?_
    show Go _ _ _ _ _ _ _ (s₁.setTop (mkF m 19 #[.val (.int (8 : Int32))] [(.int (2 : Int32)), (.int (8 : Int32))]))
    refine Go.of (fun _ q => XS.icmpYes X0.here hx rfl (pc0 := 19) (pc' := 26) rfl (hb hby d11_19) rfl (feq (by decide)).2 (by decide) (by decide) q) ?_
    show Go _ _ _ _ _ _ _ (s₁.setTop (mkF m 26 #[.val (.int (8 : Int32))] []))
    refine Go.of (fun _ q => XS.iloadN X0.here hx rfl (hb hby d11_26) rfl q) ?_
    show Go _ _ _ _ _ _ _ (s₁.setTop (mkF m 27 #[.val (.int (8 : Int32))] [(.int (8 : Int32))]))
    refine Go.of (fun _ q => XS.iconst X0.here hx rfl (hb hby d11_27) q) ?_
    show Go _ _ _ _ _ _ _ (s₁.setTop (mkF m 28 #[.val (.int (8 : Int32))] [(.int (3 : Int32)), (.int (8 : Int32))]))
    refine Go.of (fun _ q => XS.icmpYes X0.here hx rfl (pc0 := 28) (pc' := 35) rfl (hb hby d11_28) rfl (feq (by decide)).2 (by decide) (by decide) q) ?_
    show Go _ _ _ _ _ _ _ (s₁.setTop (mkF m 35 #[.val (.int (8 : Int32))] []))
    refine Go.of (fun _ q => XS.iloadN X0.here hx rfl (hb hby d11_35) rfl q) ?_
    show Go _ _ _ _ _ _ _ (s₁.setTop (mkF m 36 #[.val (.int (8 : Int32))] [(.int (8 : Int32))]))
    refine Go.of (fun _ q => XS.iconst X0.here hx rfl (hb hby d11_36) q) ?_
    show Go _ _ _ _ _ _ _ (s₁.setTop (mkF m 37 #[.val (.int (8 : Int32))] [(.int (4 : Int32)), (.int (8 : Int32))]))
    refine Go.of (fun _ q => XS.icmpYes X0.here hx rfl (pc0 := 37) (pc' := 44) rfl (hb hby d11_37) rfl (feq (by decide)).2 (by decide) (by decide) q) ?_
    show Go _ _ _ _ _ _ _ (s₁.setTop (mkF m 44 #[.val (.int (8 : Int32))] []))
    refine Go.of (fun _ q => XS.iloadN X0.here hx rfl (hb hby d11_44) rfl q) ?_
    show Go _ _ _ _ _ _ _ (s₁.setTop (mkF m 45 #[.val (.int (8 : Int32))] [(.int (8 : Int32))]))
    refine Go.of (fun _ q => XS.iconst X0.here hx rfl (hb hby d11_45) q) ?_
    show Go _ _ _ _ _ _ _ (s₁.setTop (mkF m 46 #[.val (.int (8 : Int32))] [(.int (5 : Int32)), (.int (8 : Int32))]))
    refine Go.of (fun _ q => XS.icmpYes X0.here hx rfl (pc0 := 46) (pc' := 53) rfl (hb hby d11_46) rfl (feq (by decide)).2 (by decide) (by decide) q) ?_
    show Go _ _ _ _ _ _ _ (s₁.setTop (mkF m 53 #[.val (.int (8 : Int32))] []))
    refine Go.of (fun _ q => XS.iloadN X0.here hx rfl (hb hby d11_53) rfl q) ?_
    show Go _ _ _ _ _ _ _ (s₁.setTop (mkF m 54 #[.val (.int (8 : Int32))] [(.int (8 : Int32))]))
    refine Go.of (fun _ q => XS.bipush X0.here hx rfl (hb hby d11_54) q) ?_
    show Go _ _ _ _ _ _ _ (s₁.setTop (mkF m 56 #[.val (.int (8 : Int32))] [(.int (6 : Int32)), (.int (8 : Int32))]))
    refine Go.of (fun _ q => XS.icmpYes X0.here hx rfl (pc0 := 56) (pc' := 63) rfl (hb hby d11_56) rfl (feq (by decide)).2 (by decide) (by decide) q) ?_
    show Go _ _ _ _ _ _ _ (s₁.setTop (mkF m 63 #[.val (.int (8 : Int32))] []))
    refine Go.of (fun _ q => XS.iloadN X0.here hx rfl (hb hby d11_63) rfl q) ?_
    show Go _ _ _ _ _ _ _ (s₁.setTop (mkF m 64 #[.val (.int (8 : Int32))] [(.int (8 : Int32))]))
    refine Go.of (fun _ q => XS.bipush X0.here hx rfl (hb hby d11_64) q) ?_
    show Go _ _ _ _ _ _ _ (s₁.setTop (mkF m 66 #[.val (.int (8 : Int32))] [(.int (7 : Int32)), (.int (8 : Int32))]))
    refine Go.of (fun _ q => XS.icmpYes X0.here hx rfl (pc0 := 66) (pc' := 73) rfl (hb hby d11_66) rfl (feq (by decide)).2 (by decide) (by decide) q) ?_
    show Go _ _ _ _ _ _ _ (s₁.setTop (mkF m 73 #[.val (.int (8 : Int32))] []))
    refine Go.of (fun _ q => XS.iloadN X0.here hx rfl (hb hby d11_73) rfl q) ?_
    show Go _ _ _ _ _ _ _ (s₁.setTop (mkF m 74 #[.val (.int (8 : Int32))] [(.int (8 : Int32))]))
    refine Go.of (fun _ q => XS.bipush X0.here hx rfl (hb hby d11_74) q) ?_
    show Go _ _ _ _ _ _ _ (s₁.setTop (mkF m 76 #[.val (.int (8 : Int32))] [(.int (8 : Int32)), (.int (8 : Int32))]))
    refine Go.of (fun _ q => XS.icmpNo X0.here hx rfl (hb hby d11_76) rfl (teq rfl).2 q) ?_
    show Go _ _ _ _ _ _ _ (s₁.setTop (mkF m 79 #[.val (.int (8 : Int32))] []))
    obtain ⟨T9, X9, e9, st9⟩ := getS2 X0 hx hZ hown (host := "") (Or.inl (hw _ (List.mem_of_getElem? (i := 106) rfl))) Via.refl e0 (Sta.ext Od.2 SS_8) (g := (mkF m 79 #[.val (.int (8 : Int32))] [])) rfl (hb hby d11_79)
    refine Go.of st9 ?_
    show Go _ _ _ _ _ _ _ (T9.setTop (mkF m 82 #[.val (.int (8 : Int32))] [(.ref q8)]))
    refine Go.retA X9 hx hlk hret rfl rfl (hb hby d11_82) (by decide) (by decide) ?_
    rw [e9]
    exact ⟨rfl, N0, rfl⟩
  · show Go _ _ _ _ _ _ _ (s₁.setTop (mkF m 0 #[.val (.int (9 : Int32))] []))
    refine Go.of (fun _ q => XS.iloadN X0.here hx rfl (hb hby d11_0) rfl q) ?_
    show Go _ _ _ _ _ _ _ (s₁.setTop (mkF m 1 #[.val (.int (9 : Int32))] [(.int (9 : Int32))]))
    refine Go.of (fun _ q => XS.ifYes X0.here hx rfl (pc0 := 1) (pc' := 8) rfl (hb hby d11_1) rfl ((if0 _ _).trans (feq (by decide)).2) (by decide) (by decide) q) ?_
    show Go _ _ _ _ _ _ _ (s₁.setTop (mkF m 8 #[.val (.int (9 : Int32))] []))
    refine Go.of (fun _ q => XS.iloadN X0.here hx rfl (hb hby d11_8) rfl q) ?_
    show Go _ _ _ _ _ _ _ (s₁.setTop (mkF m 9 #[.val (.int (9 : Int32))] [(.int (9 : Int32))]))
    refine Go.of (fun _ q => XS.iconst X0.here hx rfl (hb hby d11_9) q) ?_
    show Go _ _ _ _ _ _ _ (s₁.setTop (mkF m 10 #[.val (.int (9 : Int32))] [(.int (1 : Int32)), (.int (9 : Int32))]))
    refine Go.of (fun _ q => XS.icmpYes X0.here hx rfl (pc0 := 10) (pc' := 17) rfl (hb hby d11_10) rfl (feq (by decide)).2 (by decide) (by decide) q) ?_
    show Go _ _ _ _ _ _ _ (s₁.setTop (mkF m 17 #[.val (.int (9 : Int32))] []))
    refine Go.of (fun _ q => XS.iloadN X0.here hx rfl (hb hby d11_17) rfl q) ?_
    show Go _ _ _ _ _ _ _ (s₁.setTop (mkF m 18 #[.val (.int (9 : Int32))] [(.int (9 : Int32))]))
    refine Go.of (fun _ q => XS.iconst X0.here hx rfl (hb hby d11_18) q) ?_
    show Go _ _ _ _ _ _ _ (s₁.setTop (mkF m 19 #[.val (.int (9 : Int32))] [(.int (2 : Int32)), (.int (9 : Int32))]))
    refine Go.of (fun _ q => XS.icmpYes X0.here hx rfl (pc0 := 19) (pc' := 26) rfl (hb hby d11_19) rfl (feq (by decide)).2 (by decide) (by decide) q) ?_
    show Go _ _ _ _ _ _ _ (s₁.setTop (mkF m 26 #[.val (.int (9 : Int32))] []))
    refine Go.of (fun _ q => XS.iloadN X0.here hx rfl (hb hby d11_26) rfl q) ?_
    show Go _ _ _ _ _ _ _ (s₁.setTop (mkF m 27 #[.val (.int (9 : Int32))] [(.int (9 : Int32))]))
    refine Go.of (fun _ q => XS.iconst X0.here hx rfl (hb hby d11_27) q) ?_
    show Go _ _ _ _ _ _ _ (s₁.setTop (mkF m 28 #[.val (.int (9 : Int32))] [(.int (3 : Int32)), (.int (9 : Int32))]))
    refine Go.of (fun _ q => XS.icmpYes X0.here hx rfl (pc0 := 28) (pc' := 35) rfl (hb hby d11_28) rfl (feq (by decide)).2 (by decide) (by decide) q) ?_
    show Go _ _ _ _ _ _ _ (s₁.setTop (mkF m 35 #[.val (.int (9 : Int32))] []))
    refine Go.of (fun _ q => XS.iloadN X0.here hx rfl (hb hby d11_35) rfl q) ?_
    show Go _ _ _ _ _ _ _ (s₁.setTop (mkF m 36 #[.val (.int (9 : Int32))] [(.int (9 : Int32))]))
    refine Go.of (fun _ q => XS.iconst X0.here hx rfl (hb hby d11_36) q) ?_
    show Go _ _ _ _ _ _ _ (s₁.setTop (mkF m 37 #[.val (.int (9 : Int32))] [(.int (4 : Int32)), (.int (9 : Int32))]))
    refine Go.of (fun _ q => XS.icmpYes X0.here hx rfl (pc0 := 37) (pc' := 44) rfl (hb hby d11_37) rfl (feq (by decide)).2 (by decide) (by decide) q) ?_
    show Go _ _ _ _ _ _ _ (s₁.setTop (mkF m 44 #[.val (.int (9 : Int32))] []))
    refine Go.of (fun _ q => XS.iloadN X0.here hx rfl (hb hby d11_44) rfl q) ?_
    show Go _ _ _ _ _ _ _ (s₁.setTop (mkF m 45 #[.val (.int (9 : Int32))] [(.int (9 : Int32))]))
    refine Go.of (fun _ q => XS.iconst X0.here hx rfl (hb hby d11_45) q) ?_
    show Go _ _ _ _ _ _ _ (s₁.setTop (mkF m 46 #[.val (.int (9 : Int32))] [(.int (5 : Int32)), (.int (9 : Int32))]))
    refine Go.of (fun _ q => XS.icmpYes X0.here hx rfl (pc0 := 46) (pc' := 53) rfl (hb hby d11_46) rfl (feq (by decide)).2 (by decide) (by decide) q) ?_
    show Go _ _ _ _ _ _ _ (s₁.setTop (mkF m 53 #[.val (.int (9 : Int32))] []))
    refine Go.of (fun _ q => XS.iloadN X0.here hx rfl (hb hby d11_53) rfl q) ?_
    show Go _ _ _ _ _ _ _ (s₁.setTop (mkF m 54 #[.val (.int (9 : Int32))] [(.int (9 : Int32))]))
    refine Go.of (fun _ q => XS.bipush X0.here hx rfl (hb hby d11_54) q) ?_
    show Go _ _ _ _ _ _ _ (s₁.setTop (mkF m 56 #[.val (.int (9 : Int32))] [(.int (6 : Int32)), (.int (9 : Int32))]))
    refine Go.of (fun _ q => XS.icmpYes X0.here hx rfl (pc0 := 56) (pc' := 63) rfl (hb hby d11_56) rfl (feq (by decide)).2 (by decide) (by decide) q) ?_
    show Go _ _ _ _ _ _ _ (s₁.setTop (mkF m 63 #[.val (.int (9 : Int32))] []))
    refine Go.of (fun _ q => XS.iloadN X0.here hx rfl (hb hby d11_63) rfl q) ?_
    show Go _ _ _ _ _ _ _ (s₁.setTop (mkF m 64 #[.val (.int (9 : Int32))] [(.int (9 : Int32))]))
    refine Go.of (fun _ q => XS.bipush X0.here hx rfl (hb hby d11_64) q) ?_
    show Go _ _ _ _ _ _ _ (s₁.setTop (mkF m 66 #[.val (.int (9 : Int32))] [(.int (7 : Int32)), (.int (9 : Int32))]))
    refine Go.of (fun _ q => XS.icmpYes X0.here hx rfl (pc0 := 66) (pc' := 73) rfl (hb hby d11_66) rfl (feq (by decide)).2 (by decide) (by decide) q) ?_
    show Go _ _ _ _ _ _ _ (s₁.setTop (mkF m 73 #[.val (.int (9 : Int32))] []))
    refine Go.of (fun _ q => XS.iloadN X0.here hx rfl (hb hby d11_73) rfl q) ?_
    show Go _ _ _ _ _ _ _ (s₁.setTop (mkF m 74 #[.val (.int (9 : Int32))] [(.int (9 : Int32))]))
    refine Go.of (fun _ q => XS.bipush X0.here hx rfl (hb hby d11_74) q) ?_
    show Go _ _ _ _ _ _ _ (s₁.setTop (mkF m 76 #[.val (.int (9 : Int32))] [(.int (8 : Int32)), (.int (9 : Int32))]))
    refine Go.of (fun _ q => XS.icmpYes X0.here hx rfl (pc0 := 76) (pc' := 83) rfl (hb hby d11_76) rfl (feq (by decide)).2 (by decide) (by decide) q) ?_
    show Go _ _ _ _ _ _ _ (s₁.setTop (mkF m 83 #[.val (.int (9 : Int32))] []))
    refine Go.of (fun _ q => XS.iloadN X0.here hx rfl (hb hby d11_83) rfl q) ?_
    show Go _ _ _ _ _ _ _ (s₁.setTop (mkF m 84 #[.val (.int (9 : Int32))] [(.int (9 : Int32))]))
    refine Go.of (fun _ q => XS.bipush X0.here hx rfl (hb hby d11_84) q) ?_
    show Go _ _ _ _ _ _ _ (s₁.setTop (mkF m 86 #[.val (.int (9 : Int32))] [(.int (9 : Int32)), (.int (9 : Int32))]))
    refine Go.of (fun _ q => XS.icmpNo X0.here hx rfl (hb hby d11_86) rfl (teq rfl).2 q) ?_
    show Go _ _ _ _ _ _ _ (s₁.setTop (mkF m 89 #[.val (.int (9 : Int32))] []))
    obtain ⟨T10, X10, e10, st10⟩ := getS2 X0 hx hZ hown (host := "") (Or.inl (hw _ (List.mem_of_getElem? (i := 102) rfl))) Via.refl e0 (Sta.ext Od.2 SS_9) (g := (mkF m 89 #[.val (.int (9 : Int32))] [])) rfl (hb hby d11_89)
    refine Go.of st10 ?_
    show Go _ _ _ _ _ _ _ (T10.setTop (mkF m 92 #[.val (.int (9 : Int32))] [(.ref q9)]))
    refine Go.retA X10 hx hlk hret rfl rfl (hb hby d11_92) (by decide) (by decide) ?_
    rw [e10]
    exact ⟨rfl, N0, rfl⟩
  · show Go _ _ _ _ _ _ _ (s₁.setTop (mkF m 0 #[.val (.int (10 : Int32))] []))
    refine Go.of (fun _ q => XS.iloadN X0.here hx rfl (hb hby d11_0) rfl q) ?_
    show Go _ _ _ _ _ _ _ (s₁.setTop (mkF m 1 #[.val (.int (10 : Int32))] [(.int (10 : Int32))]))
    refine Go.of (fun _ q => XS.ifYes X0.here hx rfl (pc0 := 1) (pc' := 8) rfl (hb hby d11_1) rfl ((if0 _ _).trans (feq (by decide)).2) (by decide) (by decide) q) ?_
    show Go _ _ _ _ _ _ _ (s₁.setTop (mkF m 8 #[.val (.int (10 : Int32))] []))
    refine Go.of (fun _ q => XS.iloadN X0.here hx rfl (hb hby d11_8) rfl q) ?_
    show Go _ _ _ _ _ _ _ (s₁.setTop (mkF m 9 #[.val (.int (10 : Int32))] [(.int (10 : Int32))]))
    refine Go.of (fun _ q => XS.iconst X0.here hx rfl (hb hby d11_9) q) ?_
    show Go _ _ _ _ _ _ _ (s₁.setTop (mkF m 10 #[.val (.int (10 : Int32))] [(.int (1 : Int32)), (.int (10 : Int32))]))
    refine Go.of (fun _ q => XS.icmpYes X0.here hx rfl (pc0 := 10) (pc' := 17) rfl (hb hby d11_10) rfl (feq (by decide)).2 (by decide) (by decide) q) ?_
    show Go _ _ _ _ _ _ _ (s₁.setTop (mkF m 17 #[.val (.int (10 : Int32))] []))
    refine Go.of (fun _ q => XS.iloadN X0.here hx rfl (hb hby d11_17) rfl q) ?_
    show Go _ _ _ _ _ _ _ (s₁.setTop (mkF m 18 #[.val (.int (10 : Int32))] [(.int (10 : Int32))]))
    refine Go.of (fun _ q => XS.iconst X0.here hx rfl (hb hby d11_18) q) ?_
    show Go _ _ _ _ _ _ _ (s₁.setTop (mkF m 19 #[.val (.int (10 : Int32))] [(.int (2 : Int32)), (.int (10 : Int32))]))
    refine Go.of (fun _ q => XS.icmpYes X0.here hx rfl (pc0 := 19) (pc' := 26) rfl (hb hby d11_19) rfl (feq (by decide)).2 (by decide) (by decide) q) ?_
    show Go _ _ _ _ _ _ _ (s₁.setTop (mkF m 26 #[.val (.int (10 : Int32))] []))
    refine Go.of (fun _ q => XS.iloadN X0.here hx rfl (hb hby d11_26) rfl q) ?_
    show Go _ _ _ _ _ _ _ (s₁.setTop (mkF m 27 #[.val (.int (10 : Int32))] [(.int (10 : Int32))]))
    refine Go.of (fun _ q => XS.iconst X0.here hx rfl (hb hby d11_27) q) ?_
    show Go _ _ _ _ _ _ _ (s₁.setTop (mkF m 28 #[.val (.int (10 : Int32))] [(.int (3 : Int32)), (.int (10 : Int32))]))
    refine Go.of (fun _ q => XS.icmpYes X0.here hx rfl (pc0 := 28) (pc' := 35) rfl (hb hby d11_28) rfl (feq (by decide)).2 (by decide) (by decide) q) ?_
    show Go _ _ _ _ _ _ _ (s₁.setTop (mkF m 35 #[.val (.int (10 : Int32))] []))
    refine Go.of (fun _ q => XS.iloadN X0.here hx rfl (hb hby d11_35) rfl q) ?_
    show Go _ _ _ _ _ _ _ (s₁.setTop (mkF m 36 #[.val (.int (10 : Int32))] [(.int (10 : Int32))]))
    refine Go.of (fun _ q => XS.iconst X0.here hx rfl (hb hby d11_36) q) ?_
    show Go _ _ _ _ _ _ _ (s₁.setTop (mkF m 37 #[.val (.int (10 : Int32))] [(.int (4 : Int32)), (.int (10 : Int32))]))
    refine Go.of (fun _ q => XS.icmpYes X0.here hx rfl (pc0 := 37) (pc' := 44) rfl (hb hby d11_37) rfl (feq (by decide)).2 (by decide) (by decide) q) ?_
    show Go _ _ _ _ _ _ _ (s₁.setTop (mkF m 44 #[.val (.int (10 : Int32))] []))
    refine Go.of (fun _ q => XS.iloadN X0.here hx rfl (hb hby d11_44) rfl q) ?_
    show Go _ _ _ _ _ _ _ (s₁.setTop (mkF m 45 #[.val (.int (10 : Int32))] [(.int (10 : Int32))]))
    refine Go.of (fun _ q => XS.iconst X0.here hx rfl (hb hby d11_45) q) ?_
    show Go _ _ _ _ _ _ _ (s₁.setTop (mkF m 46 #[.val (.int (10 : Int32))] [(.int (5 : Int32)), (.int (10 : Int32))]))
    refine Go.of (fun _ q => XS.icmpYes X0.here hx rfl (pc0 := 46) (pc' := 53) rfl (hb hby d11_46) rfl (feq (by decide)).2 (by decide) (by decide) q) ?_
    show Go _ _ _ _ _ _ _ (s₁.setTop (mkF m 53 #[.val (.int (10 : Int32))] []))
    refine Go.of (fun _ q => XS.iloadN X0.here hx rfl (hb hby d11_53) rfl q) ?_
    show Go _ _ _ _ _ _ _ (s₁.setTop (mkF m 54 #[.val (.int (10 : Int32))] [(.int (10 : Int32))]))
    refine Go.of (fun _ q => XS.bipush X0.here hx rfl (hb hby d11_54) q) ?_
    show Go _ _ _ _ _ _ _ (s₁.setTop (mkF m 56 #[.val (.int (10 : Int32))] [(.int (6 : Int32)), (.int (10 : Int32))]))
    refine Go.of (fun _ q => XS.icmpYes X0.here hx rfl (pc0 := 56) (pc' := 63) rfl (hb hby d11_56) rfl (feq (by decide)).2 (by decide) (by decide) q) ?_
    show Go _ _ _ _ _ _ _ (s₁.setTop (mkF m 63 #[.val (.int (10 : Int32))] []))
    refine Go.of (fun _ q => XS.iloadN X0.here hx rfl (hb hby d11_63) rfl q) ?_
    show Go _ _ _ _ _ _ _ (s₁.setTop (mkF m 64 #[.val (.int (10 : Int32))] [(.int (10 : Int32))]))
    refine Go.of (fun _ q => XS.bipush X0.here hx rfl (hb hby d11_64) q) ?_
    show Go _ _ _ _ _ _ _ (s₁.setTop (mkF m 66 #[.val (.int (10 : Int32))] [(.int (7 : Int32)), (.int (10 : Int32))]))
    refine Go.of (fun _ q => XS.icmpYes X0.here hx rfl (pc0 := 66) (pc' := 73) rfl (hb hby d11_66) rfl (feq (by decide)).2 (by decide) (by decide) q) ?_
    show Go _ _ _ _ _ _ _ (s₁.setTop (mkF m 73 #[.val (.int (10 : Int32))] []))
    refine Go.of (fun _ q => XS.iloadN X0.here hx rfl (hb hby d11_73) rfl q) ?_
    show Go _ _ _ _ _ _ _ (s₁.setTop (mkF m 74 #[.val (.int (10 : Int32))] [(.int (10 : Int32))]))
    refine Go.of (fun _ q => XS.bipush X0.here hx rfl (hb hby d11_74) q) ?_
    show Go _ _ _ _ _ _ _ (s₁.setTop (mkF m 76 #[.val (.int (10 : Int32))] [(.int (8 : Int32)), (.int (10 : Int32))]))
    refine Go.of (fun _ q => XS.icmpYes X0.here hx rfl (pc0 := 76) (pc' := 83) rfl (hb hby d11_76) rfl (feq (by decide)).2 (by decide) (by decide) q) ?_
    show Go _ _ _ _ _ _ _ (s₁.setTop (mkF m 83 #[.val (.int (10 : Int32))] []))
    refine Go.of (fun _ q => XS.iloadN X0.here hx rfl (hb hby d11_83) rfl q) ?_
    show Go _ _ _ _ _ _ _ (s₁.setTop (mkF m 84 #[.val (.int (10 : Int32))] [(.int (10 : Int32))]))
    refine Go.of (fun _ q => XS.bipush X0.here hx rfl (hb hby d11_84) q) ?_
    show Go _ _ _ _ _ _ _ (s₁.setTop (mkF m 86 #[.val (.int (10 : Int32))] [(.int (9 : Int32)), (.int (10 : Int32))]))
    refine Go.of (fun _ q => XS.icmpYes X0.here hx rfl (pc0 := 86) (pc' := 93) rfl (hb hby d11_86) rfl (feq (by decide)).2 (by decide) (by decide) q) ?_
    show Go _ _ _ _ _ _ _ (s₁.setTop (mkF m 93 #[.val (.int (10 : Int32))] []))
    refine Go.of (fun _ q => XS.iloadN X0.here hx rfl (hb hby d11_93) rfl q) ?_
    show Go _ _ _ _ _ _ _ (s₁.setTop (mkF m 94 #[.val (.int (10 : Int32))] [(.int (10 : Int32))]))
    refine Go.of (fun _ q => XS.bipush X0.here hx rfl (hb hby d11_94) q) ?_
    show Go _ _ _ _ _ _ _ (s₁.setTop (mkF m 96 #[.val (.int (10 : Int32))] [(.int (10 : Int32)), (.int (10 : Int32))]))
    refine Go.of (fun _ q => XS.icmpNo X0.here hx rfl (hb hby d11_96) rfl (teq rfl).2 q) ?_
    show Go _ _ _ _ _ _ _ (s₁.setTop (mkF m 99 #[.val (.int (10 : Int32))] []))
    obtain ⟨T11, X11, e11, st11⟩ := getS2 X0 hx hZ hown (host := "") (Or.inl (hw _ (List.mem_of_getElem? (i := 114) rfl))) Via.refl e0 (Sta.ext Od.2 SS_10) (g := (mkF m 99 #[.val (.int (10 : Int32))] [])) rfl (hb hby d11_99)
    refine Go.of st11 ?_
    show Go _ _ _ _ _ _ _ (T11.setTop (mkF m 102 #[.val (.int (10 : Int32))] [(.ref q10)]))
    refine Go.retA X11 hx hlk hret rfl rfl (hb hby d11_102) (by decide) (by decide) ?_
    rw [e11]
    exact ⟨rfl, N0, rfl⟩
  · show Go _ _ _ _ _ _ _ (s₁.setTop (mkF m 0 #[.val (.int (11 : Int32))] []))
    refine Go.of (fun _ q => XS.iloadN X0.here hx rfl (hb hby d11_0) rfl q) ?_
    show Go _ _ _ _ _ _ _ (s₁.setTop (mkF m 1 #[.val (.int (11 : Int32))] [(.int (11 : Int32))]))
    refine Go.of (fun _ q => XS.ifYes X0.here hx rfl (pc0 := 1) (pc' := 8) rfl (hb hby d11_1) rfl ((if0 _ _).trans (feq (by decide)).2) (by decide) (by decide) q) ?_
    show Go _ _ _ _ _ _ _ (s₁.setTop (mkF m 8 #[.val (.int (11 : Int32))] []))
    refine Go.of (fun _ q => XS.iloadN X0.here hx rfl (hb hby d11_8) rfl q) ?_
    show Go _ _ _ _ _ _ _ (s₁.setTop (mkF m 9 #[.val (.int (11 : Int32))] [(.int (11 : Int32))]))
    refine Go.of (fun _ q => XS.iconst X0.here hx rfl (hb hby d11_9) q) ?_
    show Go _ _ _ _ _ _ _ (s₁.setTop (mkF m 10 #[.val (.int (11 : Int32))] [(.int (1 : Int32)), (.int (11 : Int32))]))
    refine Go.of (fun _ q => XS.icmpYes X0.here hx rfl (pc0 := 10) (pc' := 17) rfl (hb hby d11_10) rfl (feq (by decide)).2 (by decide) (by decide) q) ?_
    show Go _ _ _ _ _ _ _ (s₁.setTop (mkF m 17 #[.val (.int (11 : Int32))] []))
    refine Go.of (fun _ q => XS.iloadN X0.here hx rfl (hb hby d11_17) rfl q) ?_
    show Go _ _ _ _ _ _ _ (s₁.setTop (mkF m 18 #[.val (.int (11 : Int32))] [(.int (11 : Int32))]))
    refine Go.of (fun _ q => XS.iconst X0.here hx rfl (hb hby d11_18) q) ?_
    show Go _ _ _ _ _ _ _ (s₁.setTop (mkF m 19 #[.val (.int (11 : Int32))] [(.int (2 : Int32)), (.int (11 : Int32))]))
    refine Go.of (fun _ q => XS.icmpYes X0.here hx rfl (pc0 := 19) (pc' := 26) rfl (hb hby d11_19) rfl (feq (by decide)).2 (by decide) (by decide) q) ?_
    show Go _ _ _ _ _ _ _ (s₁.setTop (mkF m 26 #[.val (.int (11 : Int32))] []))
    refine Go.of (fun _ q => XS.iloadN X0.here hx rfl (hb hby d11_26) rfl q) ?_
    show Go _ _ _ _ _ _ _ (s₁.setTop (mkF m 27 #[.val (.int (11 : Int32))] [(.int (11 : Int32))]))
    refine Go.of (fun _ q => XS.iconst X0.here hx rfl (hb hby d11_27) q) ?_
    show Go _ _ _ _ _ _ _ (s₁.setTop (mkF m 28 #[.val (.int (11 : Int32))] [(.int (3 : Int32)), (.int (11 : Int32))]))
    refine Go.of (fun _ q => XS.icmpYes X0.here hx rfl (pc0 := 28) (pc' := 35) rfl (hb hby d11_28) rfl (feq (by decide)).2 (by decide) (by decide) q) ?_
    show Go _ _ _ _ _ _ _ (s₁.setTop (mkF m 35 #[.val (.int (11 : Int32))] []))
    refine Go.of (fun _ q => XS.iloadN X0.here hx rfl (hb hby d11_35) rfl q) ?_
    show Go _ _ _ _ _ _ _ (s₁.setTop (mkF m 36 #[.val (.int (11 : Int32))] [(.int (11 : Int32))]))
    refine Go.of (fun _ q => XS.iconst X0.here hx rfl (hb hby d11_36) q) ?_
    show Go _ _ _ _ _ _ _ (s₁.setTop (mkF m 37 #[.val (.int (11 : Int32))] [(.int (4 : Int32)), (.int (11 : Int32))]))
    refine Go.of (fun _ q => XS.icmpYes X0.here hx rfl (pc0 := 37) (pc' := 44) rfl (hb hby d11_37) rfl (feq (by decide)).2 (by decide) (by decide) q) ?_
    show Go _ _ _ _ _ _ _ (s₁.setTop (mkF m 44 #[.val (.int (11 : Int32))] []))
    refine Go.of (fun _ q => XS.iloadN X0.here hx rfl (hb hby d11_44) rfl q) ?_
    show Go _ _ _ _ _ _ _ (s₁.setTop (mkF m 45 #[.val (.int (11 : Int32))] [(.int (11 : Int32))]))
    refine Go.of (fun _ q => XS.iconst X0.here hx rfl (hb hby d11_45) q) ?_
    show Go _ _ _ _ _ _ _ (s₁.setTop (mkF m 46 #[.val (.int (11 : Int32))] [(.int (5 : Int32)), (.int (11 : Int32))]))
    refine Go.of (fun _ q => XS.icmpYes X0.here hx rfl (pc0 := 46) (pc' := 53) rfl (hb hby d11_46) rfl (feq (by decide)).2 (by decide) (by decide) q) ?_
    show Go _ _ _ _ _ _ _ (s₁.setTop (mkF m 53 #[.val (.int (11 : Int32))] []))
    refine Go.of (fun _ q => XS.iloadN X0.here hx rfl (hb hby d11_53) rfl q) ?_
    show Go _ _ _ _ _ _ _ (s₁.setTop (mkF m 54 #[.val (.int (11 : Int32))] [(.int (11 : Int32))]))
    refine Go.of (fun _ q => XS.bipush X0.here hx rfl (hb hby d11_54) q) ?_
    show Go _ _ _ _ _ _ _ (s₁.setTop (mkF m 56 #[.val (.int (11 : Int32))] [(.int (6 : Int32)), (.int (11 : Int32))]))
    refine Go.of (fun _ q => XS.icmpYes X0.here hx rfl (pc0 := 56) (pc' := 63) rfl (hb hby d11_56) rfl (feq (by decide)).2 (by decide) (by decide) q) ?_
    show Go _ _ _ _ _ _ _ (s₁.setTop (mkF m 63 #[.val (.int (11 : Int32))] []))
    refine Go.of (fun _ q => XS.iloadN X0.here hx rfl (hb hby d11_63) rfl q) ?_
    show Go _ _ _ _ _ _ _ (s₁.setTop (mkF m 64 #[.val (.int (11 : Int32))] [(.int (11 : Int32))]))
    refine Go.of (fun _ q => XS.bipush X0.here hx rfl (hb hby d11_64) q) ?_
    show Go _ _ _ _ _ _ _ (s₁.setTop (mkF m 66 #[.val (.int (11 : Int32))] [(.int (7 : Int32)), (.int (11 : Int32))]))
    refine Go.of (fun _ q => XS.icmpYes X0.here hx rfl (pc0 := 66) (pc' := 73) rfl (hb hby d11_66) rfl (feq (by decide)).2 (by decide) (by decide) q) ?_
    show Go _ _ _ _ _ _ _ (s₁.setTop (mkF m 73 #[.val (.int (11 : Int32))] []))
    refine Go.of (fun _ q => XS.iloadN X0.here hx rfl (hb hby d11_73) rfl q) ?_
    show Go _ _ _ _ _ _ _ (s₁.setTop (mkF m 74 #[.val (.int (11 : Int32))] [(.int (11 : Int32))]))
    refine Go.of (fun _ q => XS.bipush X0.here hx rfl (hb hby d11_74) q) ?_
    show Go _ _ _ _ _ _ _ (s₁.setTop (mkF m 76 #[.val (.int (11 : Int32))] [(.int (8 : Int32)), (.int (11 : Int32))]))
    refine Go.of (fun _ q => XS.icmpYes X0.here hx rfl (pc0 := 76) (pc' := 83) rfl (hb hby d11_76) rfl (feq (by decide)).2 (by decide) (by decide) q) ?_
    show Go _ _ _ _ _ _ _ (s₁.setTop (mkF m 83 #[.val (.int (11 : Int32))] []))
    refine Go.of (fun _ q => XS.iloadN X0.here hx rfl (hb hby d11_83) rfl q) ?_
    show Go _ _ _ _ _ _ _ (s₁.setTop (mkF m 84 #[.val (.int (11 : Int32))] [(.int (11 : Int32))]))
    refine Go.of (fun _ q => XS.bipush X0.here hx rfl (hb hby d11_84) q) ?_
    show Go _ _ _ _ _ _ _ (s₁.setTop (mkF m 86 #[.val (.int (11 : Int32))] [(.int (9 : Int32)), (.int (11 : Int32))]))
    refine Go.of (fun _ q => XS.icmpYes X0.here hx rfl (pc0 := 86) (pc' := 93) rfl (hb hby d11_86) rfl (feq (by decide)).2 (by decide) (by decide) q) ?_
    show Go _ _ _ _ _ _ _ (s₁.setTop (mkF m 93 #[.val (.int (11 : Int32))] []))
    refine Go.of (fun _ q => XS.iloadN X0.here hx rfl (hb hby d11_93) rfl q) ?_
    show Go _ _ _ _ _ _ _ (s₁.setTop (mkF m 94 #[.val (.int (11 : Int32))] [(.int (11 : Int32))]))
    refine Go.of (fun _ q => XS.bipush X0.here hx rfl (hb hby d11_94) q) ?_
    show Go _ _ _ _ _ _ _ (s₁.setTop (mkF m 96 #[.val (.int (11 : Int32))] [(.int (10 : Int32)), (.int (11 : Int32))]))
    refine Go.of (fun _ q => XS.icmpYes X0.here hx rfl (pc0 := 96) (pc' := 103) rfl (hb hby d11_96) rfl (feq (by decide)).2 (by decide) (by decide) q) ?_
    show Go _ _ _ _ _ _ _ (s₁.setTop (mkF m 103 #[.val (.int (11 : Int32))] []))
    obtain ⟨T12, X12, e12, st12⟩ := getS2 X0 hx hZ hown (host := "") (Or.inl (hw _ (List.mem_of_getElem? (i := 120) rfl))) Via.refl e0 (Sta.ext Od.2 SS_11) (g := (mkF m 103 #[.val (.int (11 : Int32))] [])) rfl (hb hby d11_103)
    refine Go.of st12 ?_
    show Go _ _ _ _ _ _ _ (T12.setTop (mkF m 106 #[.val (.int (11 : Int32))] [(.ref q11)]))
    refine Go.retA X12 hx hlk hret rfl rfl (hb hby d11_106) (by decide) (by decide) ?_
    rw [e12]
    exact ⟨rfl, N0, rfl⟩
theorem d6_0 : decode prog_15_method_1_code 0 = .ok (.aload_n 0, 1) := by decide +kernel
theorem d6_1 : decode prog_15_method_1_code 1 = .ok (.invokespecial 1, 3) := by decide +kernel
theorem d6_4 : decode prog_15_method_1_code 4 = .ok (.aload_n 0, 1) := by decide +kernel
theorem d6_5 : decode prog_15_method_1_code 5 = .ok (.getstatic 7, 3) := by decide +kernel
theorem d6_8 : decode prog_15_method_1_code 8 = .ok (.anewarray 13, 3) := by decide +kernel
theorem d6_11 : decode prog_15_method_1_code 11 = .ok (.putfield 15, 3) := by decide +kernel
theorem d6_14 : decode prog_15_method_1_code 14 = .ok (.return_, 1) := by decide +kernel
theorem pn1 : plainName "com/example/tundra_ascent/tundraascent/rules/Display" = true := by first | (simp [plainName, overriddenIn]; done) | decide +kernel
theorem ef_6 (m : MethodId) (a : Addr) : entryFrame m #[(.ref a)] 1 = mkF m 0 #[.val (.ref a)] [] := by first | (simp [entryFrame, mkF, argsToLocals, Value.category]; done) | rfl
def Q6 (Z : State) (a : Addr) (u1 : Value) (u2 : Int64) (h0 : Heap) (n0 : Nat) (v : Option Value) (h : Heap) (L : List Loc) : Prop := ∃ pw : Addr, ∃ kp : ClassId, v = none ∧ Fr n0 L ∧ Keep h0 h [a] ∧ h0.size ≤ pw ∧ Exa Z h a "com/example/tundra_ascent/tundraascent/rules/Display" ∧ Fld Z h a "com/example/tundra_ascent/tundraascent/rules/Display" "pawns" "[Lcom/example/tundra_ascent/tundraascent/rules/Animal;" (.ref pw) ∧ Fld Z h a "com/example/tundra_ascent/tundraascent/rules/Display" "occupied" "J" (.long u2) ∧ AF Z h pw kp (.object "com/example/tundra_ascent/tundraascent/rules/Animal") 41 (fun _ => .null) ∧ Ovr Z kp "com/example/tundra_ascent/tundraascent/rules/Animal"
set_option maxRecDepth 65536 in
set_option maxHeartbeats 40000000 in
theorem rm6 (l : Launch) (Z : State) (a0 : Array Value) (hw : ∀ d ∈ tables_1, d.before a0 Z = true) (a : Addr) (u1 : Value) (u2 : Int64) (h0 : Heap) (n0 : Nat) (Zs : n0 ≤ h0.size) (Od : Old Z n0 h0) (E_a : Exa Z h0 a "com/example/tundra_ascent/tundraascent/rules/Display") (F_a_pawns : Fld Z h0 a "com/example/tundra_ascent/tundraascent/rules/Display" "pawns" "[Lcom/example/tundra_ascent/tundraascent/rules/Animal;" u1) (F_a_occupied : Fld Z h0 a "com/example/tundra_ascent/tundraascent/rules/Display" "occupied" "J" (.long u2)) (g_a : n0 ≤ a) (Ssp : Sta Z Z.heap "com/example/tundra_ascent/tundraascent/rules/Display" "SPACES" "I" (.int (41 : Int32))) :
    Con l Z (⟨"com/example/tundra_ascent/tundraascent/rules/Display", "<init>", "()V"⟩ : MethodName) prog_15_method_1_code 1 none ({ frames := 1, cells := 1, slots := 41, locals := 12 } : Room) #[(.ref a)] h0 (Q6 Z a u1 u2 h0 n0) := by
  refine Con.intro (plainFor_of_name pn1) (fun m => ef_6 m a) ?_
  intro p e s m below meth c s₁ hx hby hml0 hZ hown hnm hret hlk X0 e0
  have hml : c.maxLocals = 1 := hml0
  have N0 := Fr.nil n0
  have Kp : Keep h0 h0 [a] := Keep.refl h0 _
  show Go _ _ _ _ _ _ _ (s₁.setTop (mkF m 0 #[.val (.ref a)] []))
  refine Go.of (fun _ q => XS.aloadN X0.here hx rfl (hb hby d6_0) rfl rfl q) ?_
  show Go _ _ _ _ _ _ _ (s₁.setTop (mkF m 1 #[.val (.ref a)] [(.ref a)]))
  obtain ⟨T1, X1, e1, st1⟩ := initO X0 hx hZ hown (hw _ (List.mem_of_getElem? (i := 23) rfl)) (hw _ (List.mem_of_getElem? (i := 24) rfl)) (hw _ (List.mem_of_getElem? (i := 25) rfl)) e0 (g := (mkF m 1 #[.val (.ref a)] [(.ref a)])) rfl (by rw [hml]; rfl) rfl (hb hby d6_1) (by decide) (W := 0) (by show 2 * 0 + _ ≤ _; exact Nat.le_of_eq rfl) (by decide)
  refine Go.of st1 ?_
  show Go _ _ _ _ _ _ _ (T1.setTop (mkF m 4 #[.val (.ref a)] []))
  refine Go.of (fun _ q => XS.aloadN X1.here hx rfl (hb hby d6_4) rfl rfl q) ?_
  show Go _ _ _ _ _ _ _ (T1.setTop (mkF m 5 #[.val (.ref a)] [(.ref a)]))
  obtain ⟨T2, X2, e2, st2⟩ := getS2 X1 hx hZ hown (host := "") (Or.inl (hw _ (List.mem_of_getElem? (i := 26) rfl))) Via.refl e1 (Sta.ext Od.2 Ssp) (g := (mkF m 5 #[.val (.ref a)] [(.ref a)])) rfl (hb hby d6_5)
  refine Go.of st2 ?_
  show Go _ _ _ _ _ _ _ (T2.setTop (mkF m 8 #[.val (.ref a)] [(.int (41 : Int32)), (.ref a)]))
  obtain ⟨T3, h3, k3, X3, e3, E3, A3, B3, O3, st3⟩ := newRE X2 hx hZ hown (hw _ (List.mem_of_getElem? (i := 28) rfl)) (hw _ (List.mem_of_getElem? (i := 29) rfl)) e2 (g := (mkF m 8 #[.val (.ref a)] [(.int (41 : Int32)), (.ref a)])) rfl (hb hby d6_8) rfl (by decide) (cap := 41) (by decide) (by decide) (by decide) (by decide) (ad := "[Lcom/example/tundra_ascent/tundraascent/rules/Animal;") (by decide)
  obtain ⟨pw, g3⟩ : ∃ z, z = h0.size := ⟨_, rfl⟩
  rw [← g3] at A3 B3 st3
  refine Go.of st3 ?_
  have g_pw : n0 ≤ pw := Nat.le_trans Zs (Nat.le_of_eq g3.symm)
  have sz_pw : h0.size ≤ pw := Nat.le_trans Kp.1 (Nat.le_of_eq g3.symm)
  have ne_a_pw : a ≠ pw := Nat.ne_of_lt (Nat.lt_of_lt_of_le E_a.lt (Nat.le_of_eq g3.symm))
  have Zs := Nat.le_trans Zs E3.1
  have Kp := Kp.ext E3
  have Od := Od.ext E3
  have E_a := E_a.ext E3
  have F_a_pawns := F_a_pawns.ext E3
  have F_a_occupied := F_a_occupied.ext E3
  have E_pw := B3
  have A_pw : AF Z h3 pw k3 (.object "com/example/tundra_ascent/tundraascent/rules/Animal") 41 (fun _ => .null) := AF.new A3 (by decide) rfl rfl
  show Go _ _ _ _ _ _ _ (T3.setTop (mkF m 11 #[.val (.ref a)] [(.ref pw), (.ref a)]))
  obtain ⟨T4, h4, X4, e4, W4, st4⟩ := putF X3 hx hZ hown (host := "") (Or.inl (hw _ (List.mem_of_getElem? (i := 30) rfl))) Via.refl e3 F_a_pawns E_a (Or.inr ⟨(hw _ (List.mem_of_getElem? (i := 31) rfl)), rfl, hnm⟩) (hw _ (List.mem_of_getElem? (i := 18) rfl)) (ty := (.array (.object "com/example/tundra_ascent/tundraascent/rules/Animal"))) (by decide) rfl rfl (g := (mkF m 11 #[.val (.ref a)] [(.ref pw), (.ref a)])) rfl rfl (hb hby d6_11)
  refine Go.of st4 ?_
  have Zs := Nat.le_trans Zs (Nat.le_of_eq W4.size.symm)
  have Kp := Kp.wr W4 (Or.inl (List.mem_of_getElem? (i := 0) rfl))
  have Od := Od.wr W4 g_a
  have E_a := E_a.wr W4
  have F_a_pawns := F_a_pawns.same W4
  have F_a_occupied := F_a_occupied.other W4 (Or.inr (slot_ne (Or.inl (hw _ (List.mem_of_getElem? (i := 99) rfl))) (Or.inr (hw _ (List.mem_of_getElem? (i := 31) rfl))) (by decide) (t := .long) (t' := (.array (.object "com/example/tundra_ascent/tundraascent/rules/Animal"))) (by decide) (by decide)))
  have E_pw := E_pw.wr W4
  have A_pw := A_pw.other W4 (Ne.symm ne_a_pw)
  have N4 := Fr.snoc X4 N0 g_a
  show Go _ _ _ _ _ _ _ (T4.setTop (mkF m 14 #[.val (.ref a)] []))
  refine Go.retV X4 hx hlk hret (hb hby d6_14) (by decide) (by decide) ?_
  rw [e4]
  exact ⟨pw, k3, rfl, N4, Kp, sz_pw, E_a, F_a_pawns, F_a_occupied, A_pw, O3⟩
theorem d10_0 : decode prog_15_method_7_code 0 = .ok (.iconst 0, 1) := by decide +kernel
theorem d10_1 : decode prog_15_method_7_code 1 = .ok (.istore_n 2, 1) := by decide +kernel
theorem d10_2 : decode prog_15_method_7_code 2 = .ok (.aload_n 0, 1) := by decide +kernel
theorem d10_3 : decode prog_15_method_7_code 3 = .ok (.getfield 15, 3) := by decide +kernel
theorem d10_6 : decode prog_15_method_7_code 6 = .ok (.astore_n 3, 1) := by decide +kernel
theorem d10_7 : decode prog_15_method_7_code 7 = .ok (.aload_n 3, 1) := by decide +kernel
theorem d10_8 : decode prog_15_method_7_code 8 = .ok (.arraylength, 1) := by decide +kernel
theorem d10_9 : decode prog_15_method_7_code 9 = .ok (.istore 4, 2) := by decide +kernel
theorem d10_11 : decode prog_15_method_7_code 11 = .ok (.iconst 0, 1) := by decide +kernel
theorem d10_12 : decode prog_15_method_7_code 12 = .ok (.istore 5, 2) := by decide +kernel
theorem d10_14 : decode prog_15_method_7_code 14 = .ok (.iload 5, 2) := by decide +kernel
theorem d10_16 : decode prog_15_method_7_code 16 = .ok (.iload 4, 2) := by decide +kernel
theorem d10_18 : decode prog_15_method_7_code 18 = .ok (.if_icmp .ge 24, 3) := by decide +kernel
theorem d10_21 : decode prog_15_method_7_code 21 = .ok (.aload_n 3, 1) := by decide +kernel
theorem d10_22 : decode prog_15_method_7_code 22 = .ok (.iload 5, 2) := by decide +kernel
theorem d10_24 : decode prog_15_method_7_code 24 = .ok (.aaload, 1) := by decide +kernel
theorem d10_25 : decode prog_15_method_7_code 25 = .ok (.astore 6, 2) := by decide +kernel
theorem d10_27 : decode prog_15_method_7_code 27 = .ok (.aload 6, 2) := by decide +kernel
theorem d10_29 : decode prog_15_method_7_code 29 = .ok (.aload_n 1, 1) := by decide +kernel
theorem d10_30 : decode prog_15_method_7_code 30 = .ok (.if_acmp .ne 6, 3) := by decide +kernel
theorem d10_33 : decode prog_15_method_7_code 33 = .ok (.iinc 2 1, 3) := by decide +kernel
theorem d10_36 : decode prog_15_method_7_code 36 = .ok (.iinc 5 1, 3) := by decide +kernel
theorem d10_39 : decode prog_15_method_7_code 39 = .ok (.goto (-25), 3) := by decide +kernel
theorem d10_42 : decode prog_15_method_7_code 42 = .ok (.iload_n 2, 1) := by decide +kernel
theorem d10_43 : decode prog_15_method_7_code 43 = .ok (.ireturn, 1) := by decide +kernel
theorem ef_10 (m : MethodId) (a : Addr) (b : Addr) : entryFrame m #[(.ref a), (.ref b)] 7 = mkF m 0 #[.val (.ref a), .val (.ref b), .unset, .unset, .unset, .unset, .unset] [] := by first | (simp [entryFrame, mkF, argsToLocals, Value.category]; done) | rfl
def Q10 (Z : State) (a : Addr) (b : Addr) (pw : Addr) (kp : ClassId) (f : Nat → Value) (h0 : Heap) (n0 : Nat) (v : Option Value) (h : Heap) (L : List Loc) : Prop := v = some (.int (own_cnt f (.ref b) 41)) ∧ Fr n0 L ∧ h = h0
set_option maxRecDepth 65536 in
set_option maxHeartbeats 40000000 in
theorem rm10 (l : Launch) (Z : State) (a0 : Array Value) (hw : ∀ d ∈ tables_1, d.before a0 Z = true) (a : Addr) (b : Addr) (pw : Addr) (kp : ClassId) (f : Nat → Value) (h0 : Heap) (n0 : Nat) (Zs : n0 ≤ h0.size) (F_a_pawns : Fld Z h0 a "com/example/tundra_ascent/tundraascent/rules/Display" "pawns" "[Lcom/example/tundra_ascent/tundraascent/rules/Animal;" (.ref pw)) (A_pw : AF Z h0 pw kp (.object "com/example/tundra_ascent/tundraascent/rules/Animal") 41 f) (hf : ∀ i, (f i).isRef = true) :
    Con l Z (⟨"com/example/tundra_ascent/tundraascent/rules/Display", "pawnsOf", "(Lcom/example/tundra_ascent/tundraascent/rules/Animal;)I"⟩ : MethodName) prog_15_method_7_code 7 (some .int) ({ frames := 0, cells := 0, slots := 0, locals := 0 } : Room) #[(.ref a), (.ref b)] h0 (Q10 Z a b pw kp f h0 n0) := by
  refine Con.intro (plainFor_of_name pn1) (fun m => ef_10 m a b) ?_
  intro p e s m below meth c s₁ hx hby hml0 hZ hown hnm hret hlk X0 e0
  have hml : c.maxLocals = 7 := hml0
  have N0 := Fr.nil n0
  have Kp : Keep h0 h0 [] := Keep.refl h0 _
  show Go _ _ _ _ _ _ _ (s₁.setTop (mkF m 0 #[.val (.ref a), .val (.ref b), .unset, .unset, .unset, .unset, .unset] []))
  refine Go.of (fun _ q => XS.iconst X0.here hx rfl (hb hby d10_0) q) ?_
  show Go _ _ _ _ _ _ _ (s₁.setTop (mkF m 1 #[.val (.ref a), .val (.ref b), .unset, .unset, .unset, .unset, .unset] [(.int (0 : Int32))]))
  refine Go.of (fun _ q => XS.istoreN X0.here hx rfl (hb hby d10_1) rfl (l' := #[.val (.ref a), .val (.ref b), .val (.int (0 : Int32)), .unset, .unset, .unset, .unset]) rfl q) ?_
  show Go _ _ _ _ _ _ _ (s₁.setTop (mkF m 2 #[.val (.ref a), .val (.ref b), .val (.int (0 : Int32)), .unset, .unset, .unset, .unset] []))
  refine Go.of (fun _ q => XS.aloadN X0.here hx rfl (hb hby d10_2) rfl rfl q) ?_
  show Go _ _ _ _ _ _ _ (s₁.setTop (mkF m 3 #[.val (.ref a), .val (.ref b), .val (.int (0 : Int32)), .unset, .unset, .unset, .unset] [(.ref a)]))
  obtain ⟨T1, X1, e1, st1⟩ := getF X0 hx hZ hown (host := "") (Or.inl (hw _ (List.mem_of_getElem? (i := 30) rfl))) Via.refl e0 F_a_pawns (g := (mkF m 3 #[.val (.ref a), .val (.ref b), .val (.int (0 : Int32)), .unset, .unset, .unset, .unset] [(.ref a)])) rfl rfl (hb hby d10_3)
  refine Go.of st1 ?_
  show Go _ _ _ _ _ _ _ (T1.setTop (mkF m 6 #[.val (.ref a), .val (.ref b), .val (.int (0 : Int32)), .unset, .unset, .unset, .unset] [(.ref pw)]))
  refine Go.of (fun _ q => XS.astoreN X1.here hx rfl (hb hby d10_6) rfl rfl (l' := #[.val (.ref a), .val (.ref b), .val (.int (0 : Int32)), .val (.ref pw), .unset, .unset, .unset]) rfl q) ?_
  show Go _ _ _ _ _ _ _ (T1.setTop (mkF m 7 #[.val (.ref a), .val (.ref b), .val (.int (0 : Int32)), .val (.ref pw), .unset, .unset, .unset] []))
  refine Go.of (fun _ q => XS.aloadN X1.here hx rfl (hb hby d10_7) rfl rfl q) ?_
  show Go _ _ _ _ _ _ _ (T1.setTop (mkF m 8 #[.val (.ref a), .val (.ref b), .val (.int (0 : Int32)), .val (.ref pw), .unset, .unset, .unset] [(.ref pw)]))
  refine Go.of (fun _ q => AF.length A_pw X1 hx hZ e1 rfl (g := (mkF m 8 #[.val (.ref a), .val (.ref b), .val (.int (0 : Int32)), .val (.ref pw), .unset, .unset, .unset] [(.ref pw)])) rfl rfl (hb hby d10_8) q) ?_
  show Go _ _ _ _ _ _ _ (T1.setTop (mkF m 9 #[.val (.ref a), .val (.ref b), .val (.int (0 : Int32)), .val (.ref pw), .unset, .unset, .unset] [(.int (41 : Int32))]))
  refine Go.of (fun _ q => XS.istore X1.here hx rfl (hb hby d10_9) rfl (l' := #[.val (.ref a), .val (.ref b), .val (.int (0 : Int32)), .val (.ref pw), .val (.int (41 : Int32)), .unset, .unset]) rfl q) ?_
  show Go _ _ _ _ _ _ _ (T1.setTop (mkF m 11 #[.val (.ref a), .val (.ref b), .val (.int (0 : Int32)), .val (.ref pw), .val (.int (41 : Int32)), .unset, .unset] []))
  refine Go.of (fun _ q => XS.iconst X1.here hx rfl (hb hby d10_11) q) ?_
  show Go _ _ _ _ _ _ _ (T1.setTop (mkF m 12 #[.val (.ref a), .val (.ref b), .val (.int (0 : Int32)), .val (.ref pw), .val (.int (41 : Int32)), .unset, .unset] [(.int (0 : Int32))]))
  refine Go.of (fun _ q => XS.istore X1.here hx rfl (hb hby d10_12) rfl (l' := #[.val (.ref a), .val (.ref b), .val (.int (0 : Int32)), .val (.ref pw), .val (.int (41 : Int32)), .val (.int (0 : Int32)), .unset]) rfl q) ?_
  have LOOP : ∀ (d i : Nat) (T : State) (sl : Slot), i + d = 41 → One sl → Stand p l e ({ frames := 0, cells := 0, slots := 0, locals := 0 } : Room) s m #[(.ref a), (.ref b)] below meth c T [] 0 0 → T.heap = h0 → Go p e below s ({ frames := 0, cells := 0, slots := 0, locals := 0 } : Room).cells ({ frames := 0, cells := 0, slots := 0, locals := 0 } : Room).slots (Q10 Z a b pw kp f h0 n0) (T.setTop (mkF m 14 #[.val (.ref a), .val (.ref b), .val (.int (own_cnt f (.ref b) i)), .val (.ref pw), .val (.int (41 : Int32)), .val (.int (Int32.ofNat i)), sl] [])) := by
    intro d
    induction d with
    | zero =>
      intro i T sl hi hsl X e1
      obtain rfl : i = 41 := by omega
      show Go _ _ _ _ _ _ _ (T.setTop (mkF m 14 #[.val (.ref a), .val (.ref b), .val (.int (own_cnt f (.ref b) 41)), .val (.ref pw), .val (.int (41 : Int32)), .val (.int (41 : Int32)), sl] []))
      refine Go.of (fun _ q => XS.iload X.here hx rfl (hb hby d10_14) rfl q) ?_
      show Go _ _ _ _ _ _ _ (T.setTop (mkF m 16 #[.val (.ref a), .val (.ref b), .val (.int (own_cnt f (.ref b) 41)), .val (.ref pw), .val (.int (41 : Int32)), .val (.int (41 : Int32)), sl] [(.int (41 : Int32))]))
      refine Go.of (fun _ q => XS.iload X.here hx rfl (hb hby d10_16) rfl q) ?_
      show Go _ _ _ _ _ _ _ (T.setTop (mkF m 18 #[.val (.ref a), .val (.ref b), .val (.int (own_cnt f (.ref b) 41)), .val (.ref pw), .val (.int (41 : Int32)), .val (.int (41 : Int32)), sl] [(.int (41 : Int32)), (.int (41 : Int32))]))
      refine Go.of (fun _ q => XS.icmpYes X.here hx rfl (pc0 := 18) (pc' := 42) rfl (hb hby d10_18) rfl (flt (by decide)).2.1 (by decide) (by decide) q) ?_
      show Go _ _ _ _ _ _ _ (T.setTop (mkF m 42 #[.val (.ref a), .val (.ref b), .val (.int (own_cnt f (.ref b) 41)), .val (.ref pw), .val (.int (41 : Int32)), .val (.int (41 : Int32)), sl] []))
      refine Go.of (fun _ q => XS.iloadN X.here hx rfl (hb hby d10_42) rfl q) ?_
      show Go _ _ _ _ _ _ _ (T.setTop (mkF m 43 #[.val (.ref a), .val (.ref b), .val (.int (own_cnt f (.ref b) 41)), .val (.ref pw), .val (.int (41 : Int32)), .val (.int (41 : Int32)), sl] [(.int (own_cnt f (.ref b) 41))]))
      refine Go.retI X hx hlk hret (hb hby d10_43) (by decide) (by decide) ?_
      rw [e1]
      exact ⟨rfl, N0, rfl⟩
    | succ d ih =>
      intro i T sl hi hsl X e1
      have hlt : i < 41 := by omega
      show Go _ _ _ _ _ _ _ (T.setTop (mkF m 14 #[.val (.ref a), .val (.ref b), .val (.int (own_cnt f (.ref b) i)), .val (.ref pw), .val (.int (41 : Int32)), .val (.int (Int32.ofNat i)), sl] []))
      refine Go.of (fun _ q => XS.iload X.here hx rfl (hb hby d10_14) rfl q) ?_
      show Go _ _ _ _ _ _ _ (T.setTop (mkF m 16 #[.val (.ref a), .val (.ref b), .val (.int (own_cnt f (.ref b) i)), .val (.ref pw), .val (.int (41 : Int32)), .val (.int (Int32.ofNat i)), sl] [(.int (Int32.ofNat i))]))
      refine Go.of (fun _ q => XS.iload X.here hx rfl (hb hby d10_16) rfl q) ?_
      show Go _ _ _ _ _ _ _ (T.setTop (mkF m 18 #[.val (.ref a), .val (.ref b), .val (.int (own_cnt f (.ref b) i)), .val (.ref pw), .val (.int (41 : Int32)), .val (.int (Int32.ofNat i)), sl] [(.int (41 : Int32)), (.int (Int32.ofNat i))]))
      refine Go.of (fun _ q => XS.icmpNo X.here hx rfl (hb hby d10_18) rfl (tlt ((own_lt41 i (by omega)).mpr hlt)).2.1 q) ?_
      show Go _ _ _ _ _ _ _ (T.setTop (mkF m 21 #[.val (.ref a), .val (.ref b), .val (.int (own_cnt f (.ref b) i)), .val (.ref pw), .val (.int (41 : Int32)), .val (.int (Int32.ofNat i)), sl] []))
      refine Go.of (fun _ q => XS.aloadN X.here hx rfl (hb hby d10_21) rfl rfl q) ?_
      show Go _ _ _ _ _ _ _ (T.setTop (mkF m 22 #[.val (.ref a), .val (.ref b), .val (.int (own_cnt f (.ref b) i)), .val (.ref pw), .val (.int (41 : Int32)), .val (.int (Int32.ofNat i)), sl] [(.ref pw)]))
      refine Go.of (fun _ q => XS.iload X.here hx rfl (hb hby d10_22) rfl q) ?_
      show Go _ _ _ _ _ _ _ (T.setTop (mkF m 24 #[.val (.ref a), .val (.ref b), .val (.int (own_cnt f (.ref b) i)), .val (.ref pw), .val (.int (41 : Int32)), .val (.int (Int32.ofNat i)), sl] [(.int (Int32.ofNat i)), (.ref pw)]))
      refine Go.of (fun _ q => AF.aaload A_pw rfl X hx hZ e1 (own_ixk (by decide) hlt rfl) (v := (f i)) rfl (g := (mkF m 24 #[.val (.ref a), .val (.ref b), .val (.int (own_cnt f (.ref b) i)), .val (.ref pw), .val (.int (41 : Int32)), .val (.int (Int32.ofNat i)), sl] [(.int (Int32.ofNat i)), (.ref pw)])) rfl rfl (hb hby d10_24) q) ?_
      show Go _ _ _ _ _ _ _ (T.setTop (mkF m 25 #[.val (.ref a), .val (.ref b), .val (.int (own_cnt f (.ref b) i)), .val (.ref pw), .val (.int (41 : Int32)), .val (.int (Int32.ofNat i)), sl] [(f i)]))
      refine Go.of (fun _ q => XS.astore X.here hx rfl (hb hby d10_25) rfl (hf i) (l' := #[.val (.ref a), .val (.ref b), .val (.int (own_cnt f (.ref b) i)), .val (.ref pw), .val (.int (41 : Int32)), .val (.int (Int32.ofNat i)), .val (f i)]) (storeOne (o := sl) rfl hsl (refCat (hf i)) rfl) q) ?_
      show Go _ _ _ _ _ _ _ (T.setTop (mkF m 27 #[.val (.ref a), .val (.ref b), .val (.int (own_cnt f (.ref b) i)), .val (.ref pw), .val (.int (41 : Int32)), .val (.int (Int32.ofNat i)), .val (f i)] []))
      refine Go.of (fun _ q => XS.aload X.here hx rfl (hb hby d10_27) rfl (hf i) q) ?_
      show Go _ _ _ _ _ _ _ (T.setTop (mkF m 29 #[.val (.ref a), .val (.ref b), .val (.int (own_cnt f (.ref b) i)), .val (.ref pw), .val (.int (41 : Int32)), .val (.int (Int32.ofNat i)), .val (f i)] [(f i)]))
      refine Go.of (fun _ q => XS.aloadN X.here hx rfl (hb hby d10_29) rfl rfl q) ?_
      show Go _ _ _ _ _ _ _ (T.setTop (mkF m 30 #[.val (.ref a), .val (.ref b), .val (.int (own_cnt f (.ref b) i)), .val (.ref pw), .val (.int (41 : Int32)), .val (.int (Int32.ofNat i)), .val (f i)] [(.ref b), (f i)]))
      by_cases c30 : (f i) = (.ref b)
      · refine Go.of (fun _ q => Jvm.RoadKit.acmp (g := (mkF m 30 #[.val (.ref a), .val (.ref b), .val (.int (own_cnt f (.ref b) i)), .val (.ref pw), .val (.int (41 : Int32)), .val (.int (Int32.ofNat i)), .val (f i)] [(.ref b), (f i)])) X hx rfl (hf i) rfl (pc0 := 30) (pc' := 33) (same := true) rfl (hb hby d10_30) rfl (decide_eq_true c30) (by decide) (by decide) q) ?_
        show Go _ _ _ _ _ _ _ (T.setTop (mkF m 33 #[.val (.ref a), .val (.ref b), .val (.int (own_cnt f (.ref b) i)), .val (.ref pw), .val (.int (41 : Int32)), .val (.int (Int32.ofNat i)), .val (f i)] []))
        refine Go.of (fun _ q => XS.iinc X.here hx rfl (hb hby d10_33) rfl (l' := #[.val (.ref a), .val (.ref b), .val (.int ((own_cnt f (.ref b) i) + (1 : Int32))), .val (.ref pw), .val (.int (41 : Int32)), .val (.int (Int32.ofNat i)), .val (f i)]) rfl q) ?_
        show Go _ _ _ _ _ _ _ (T.setTop (mkF m 36 #[.val (.ref a), .val (.ref b), .val (.int ((own_cnt f (.ref b) i) + (1 : Int32))), .val (.ref pw), .val (.int (41 : Int32)), .val (.int (Int32.ofNat i)), .val (f i)] []))
        refine Go.of (fun _ q => XS.iinc X.here hx rfl (hb hby d10_36) rfl (l' := #[.val (.ref a), .val (.ref b), .val (.int ((own_cnt f (.ref b) i) + (1 : Int32))), .val (.ref pw), .val (.int (41 : Int32)), .val (.int ((Int32.ofNat i) + (1 : Int32))), .val (f i)]) rfl q) ?_
        show Go _ _ _ _ _ _ _ (T.setTop (mkF m 39 #[.val (.ref a), .val (.ref b), .val (.int ((own_cnt f (.ref b) i) + (1 : Int32))), .val (.ref pw), .val (.int (41 : Int32)), .val (.int ((Int32.ofNat i) + (1 : Int32))), .val (f i)] []))
        refine Go.of (fun _ q => XS.goto X.here hx rfl (pc0 := 39) (pc' := 14) rfl (hb hby d10_39) (by decide) (by decide) q) ?_
        have ec : own_cnt f (.ref b) (i + 1) = ((own_cnt f (.ref b) i) + (1 : Int32)) := by show own_cnt f (.ref b) i + (if f i = .ref b then (1 : Int32) else (0 : Int32)) = _; rw [if_pos c30]
        have q := ih (i + 1) T (.val (f i)) (by omega) (One.val (refCat (hf i))) X e1
        rw [ec, ← own_inc i (by omega)] at q
        exact q
      · refine Go.of (fun _ q => Jvm.RoadKit.acmp (g := (mkF m 30 #[.val (.ref a), .val (.ref b), .val (.int (own_cnt f (.ref b) i)), .val (.ref pw), .val (.int (41 : Int32)), .val (.int (Int32.ofNat i)), .val (f i)] [(.ref b), (f i)])) X hx rfl (hf i) rfl (pc0 := 30) (pc' := 36) (same := false) rfl (hb hby d10_30) rfl (decide_eq_false c30) (by decide) (by decide) q) ?_
        show Go _ _ _ _ _ _ _ (T.setTop (mkF m 36 #[.val (.ref a), .val (.ref b), .val (.int (own_cnt f (.ref b) i)), .val (.ref pw), .val (.int (41 : Int32)), .val (.int (Int32.ofNat i)), .val (f i)] []))
        refine Go.of (fun _ q => XS.iinc X.here hx rfl (hb hby d10_36) rfl (l' := #[.val (.ref a), .val (.ref b), .val (.int (own_cnt f (.ref b) i)), .val (.ref pw), .val (.int (41 : Int32)), .val (.int ((Int32.ofNat i) + (1 : Int32))), .val (f i)]) rfl q) ?_
        show Go _ _ _ _ _ _ _ (T.setTop (mkF m 39 #[.val (.ref a), .val (.ref b), .val (.int (own_cnt f (.ref b) i)), .val (.ref pw), .val (.int (41 : Int32)), .val (.int ((Int32.ofNat i) + (1 : Int32))), .val (f i)] []))
        refine Go.of (fun _ q => XS.goto X.here hx rfl (pc0 := 39) (pc' := 14) rfl (hb hby d10_39) (by decide) (by decide) q) ?_
        have ec : own_cnt f (.ref b) (i + 1) = (own_cnt f (.ref b) i) := by show own_cnt f (.ref b) i + (if f i = .ref b then (1 : Int32) else (0 : Int32)) = _; rw [if_neg c30, Int32.add_zero]
        have q := ih (i + 1) T (.val (f i)) (by omega) (One.val (refCat (hf i))) X e1
        rw [ec, ← own_inc i (by omega)] at q
        exact q
  exact LOOP 41 0 T1 .unset rfl One.u X1 e1
theorem d15_0 : decode jdk_37_method_2_code 0 = .ok (.aload_n 0, 1) := by decide +kernel
theorem d15_1 : decode jdk_37_method_2_code 1 = .ok (.getfield 7, 3) := by decide +kernel
theorem d15_4 : decode jdk_37_method_2_code 4 = .ok (.ireturn, 1) := by decide +kernel
theorem pn2 : plainName "java/lang/Enum" = true := by first | (simp [plainName, overriddenIn]; done) | decide +kernel
theorem ef_15 (m : MethodId) (a : Addr) : entryFrame m #[(.ref a)] 1 = mkF m 0 #[.val (.ref a)] [] := by first | (simp [entryFrame, mkF, argsToLocals, Value.category]; done) | rfl
def Q15 (Z : State) (a : Addr) (u : Int32) (h0 : Heap) (n0 : Nat) (v : Option Value) (h : Heap) (L : List Loc) : Prop := v = some (.int u) ∧ Fr n0 L ∧ h = h0
set_option maxRecDepth 65536 in
set_option maxHeartbeats 40000000 in
theorem rm15 (l : Launch) (Z : State) (a0 : Array Value) (hw : ∀ d ∈ tables_1, d.before a0 Z = true) (a : Addr) (u : Int32) (h0 : Heap) (n0 : Nat) (Zs : n0 ≤ h0.size) (F_a_ordinal : Fld Z h0 a "java/lang/Enum" "ordinal" "I" (.int u)) :
    Con l Z (⟨"java/lang/Enum", "ordinal", "()I"⟩ : MethodName) jdk_37_method_2_code 1 (some .int) ({ frames := 0, cells := 0, slots := 0, locals := 0 } : Room) #[(.ref a)] h0 (Q15 Z a u h0 n0) := by
  refine Con.intro (plainFor_of_name pn2) (fun m => ef_15 m a) ?_
  intro p e s m below meth c s₁ hx hby hml0 hZ hown hnm hret hlk X0 e0
  have hml : c.maxLocals = 1 := hml0
  have N0 := Fr.nil n0
  have Kp : Keep h0 h0 [] := Keep.refl h0 _
  show Go _ _ _ _ _ _ _ (s₁.setTop (mkF m 0 #[.val (.ref a)] []))
  refine Go.of (fun _ q => XS.aloadN X0.here hx rfl (hb hby d15_0) rfl rfl q) ?_
  show Go _ _ _ _ _ _ _ (s₁.setTop (mkF m 1 #[.val (.ref a)] [(.ref a)]))
  obtain ⟨T1, X1, e1, st1⟩ := getF X0 hx hZ hown (host := "") (Or.inl (hw _ (List.mem_of_getElem? (i := 80) rfl))) Via.refl e0 F_a_ordinal (g := (mkF m 1 #[.val (.ref a)] [(.ref a)])) rfl rfl (hb hby d15_1)
  refine Go.of st1 ?_
  show Go _ _ _ _ _ _ _ (T1.setTop (mkF m 4 #[.val (.ref a)] [(.int u)]))
  refine Go.retI X1 hx hlk hret (hb hby d15_4) (by decide) (by decide) ?_
  rw [e1]
  exact ⟨rfl, N0, rfl⟩
theorem d16_0 : decode prog_29_method_4_code 0 = .ok (.aload_n 0, 1) := by decide +kernel
theorem d16_1 : decode prog_29_method_4_code 1 = .ok (.getfield 59, 3) := by decide +kernel
theorem d16_4 : decode prog_29_method_4_code 4 = .ok (.ireturn, 1) := by decide +kernel
theorem pn3 : plainName "com/example/tundra_ascent/tundraascent/rules/Section" = true := by first | (simp [plainName, overriddenIn]; done) | decide +kernel
theorem ef_16 (m : MethodId) (a : Addr) : entryFrame m #[(.ref a)] 1 = mkF m 0 #[.val (.ref a)] [] := by first | (simp [entryFrame, mkF, argsToLocals, Value.category]; done) | rfl
def Q16 (Z : State) (a : Addr) (u : Int32) (h0 : Heap) (n0 : Nat) (v : Option Value) (h : Heap) (L : List Loc) : Prop := v = some (.int u) ∧ Fr n0 L ∧ h = h0
set_option maxRecDepth 65536 in
set_option maxHeartbeats 40000000 in
theorem rm16 (l : Launch) (Z : State) (a0 : Array Value) (hw : ∀ d ∈ tables_1, d.before a0 Z = true) (a : Addr) (u : Int32) (h0 : Heap) (n0 : Nat) (Zs : n0 ≤ h0.size) (F_a_eyeballSpaces : Fld Z h0 a "com/example/tundra_ascent/tundraascent/rules/Section" "eyeballSpaces" "I" (.int u)) :
    Con l Z (⟨"com/example/tundra_ascent/tundraascent/rules/Section", "eyeballSpaces", "()I"⟩ : MethodName) prog_29_method_4_code 1 (some .int) ({ frames := 0, cells := 0, slots := 0, locals := 0 } : Room) #[(.ref a)] h0 (Q16 Z a u h0 n0) := by
  refine Con.intro (plainFor_of_name pn3) (fun m => ef_16 m a) ?_
  intro p e s m below meth c s₁ hx hby hml0 hZ hown hnm hret hlk X0 e0
  have hml : c.maxLocals = 1 := hml0
  have N0 := Fr.nil n0
  have Kp : Keep h0 h0 [] := Keep.refl h0 _
  show Go _ _ _ _ _ _ _ (s₁.setTop (mkF m 0 #[.val (.ref a)] []))
  refine Go.of (fun _ q => XS.aloadN X0.here hx rfl (hb hby d16_0) rfl rfl q) ?_
  show Go _ _ _ _ _ _ _ (s₁.setTop (mkF m 1 #[.val (.ref a)] [(.ref a)]))
  obtain ⟨T1, X1, e1, st1⟩ := getF X0 hx hZ hown (host := "") (Or.inl (hw _ (List.mem_of_getElem? (i := 87) rfl))) Via.refl e0 F_a_eyeballSpaces (g := (mkF m 1 #[.val (.ref a)] [(.ref a)])) rfl rfl (hb hby d16_1)
  refine Go.of st1 ?_
  show Go _ _ _ _ _ _ _ (T1.setTop (mkF m 4 #[.val (.ref a)] [(.int u)]))
  refine Go.retI X1 hx hlk hret (hb hby d16_4) (by decide) (by decide) ?_
  rw [e1]
  exact ⟨rfl, N0, rfl⟩
theorem d18_0 : decode jdk_41_method_11_code 0 = .ok (.iload_n 0, 1) := by decide +kernel
theorem d18_1 : decode jdk_41_method_11_code 1 = .ok (.ifCond .lt 8, 3) := by decide +kernel
theorem d18_4 : decode jdk_41_method_11_code 4 = .ok (.iload_n 0, 1) := by decide +kernel
theorem d18_5 : decode jdk_41_method_11_code 5 = .ok (.iload_n 1, 1) := by decide +kernel
theorem d18_6 : decode jdk_41_method_11_code 6 = .ok (.if_icmp .lt 10, 3) := by decide +kernel
theorem d18_16 : decode jdk_41_method_11_code 16 = .ok (.iload_n 0, 1) := by decide +kernel
theorem d18_17 : decode jdk_41_method_11_code 17 = .ok (.ireturn, 1) := by decide +kernel
theorem pn4 : plainName "jdk/internal/util/Preconditions" = true := by first | (simp [plainName, overriddenIn]; done) | decide +kernel
theorem ef_18 (m : MethodId) (x1 : Int32) (x2 : Int32) : entryFrame m #[(.int x1), (.int x2), .null] 3 = mkF m 0 #[.val (.int x1), .val (.int x2), .val .null] [] := by first | (simp [entryFrame, mkF, argsToLocals, Value.category]; done) | rfl
def Q18 (Z : State) (x1 : Int32) (x2 : Int32) (h0 : Heap) (n0 : Nat) (v : Option Value) (h : Heap) (L : List Loc) : Prop := v = some (.int x1) ∧ Fr n0 L ∧ h = h0
set_option maxRecDepth 65536 in
set_option maxHeartbeats 40000000 in
theorem rm18 (l : Launch) (Z : State) (a0 : Array Value) (hw : ∀ d ∈ tables_1, d.before a0 Z = true) (x1 : Int32) (x2 : Int32) (h0 : Heap) (n0 : Nat) (Zs : n0 ≤ h0.size) (h1 : ¬ x1 < (0 : Int32)) (h2 : x1 < x2) :
    Con l Z (⟨"jdk/internal/util/Preconditions", "checkIndex", "(IILjava/util/function/BiFunction;)I"⟩ : MethodName) jdk_41_method_11_code 3 (some .int) ({ frames := 0, cells := 0, slots := 0, locals := 0 } : Room) #[(.int x1), (.int x2), .null] h0 (Q18 Z x1 x2 h0 n0) := by
  refine Con.intro (plainFor_of_name pn4) (fun m => ef_18 m x1 x2) ?_
  intro p e s m below meth c s₁ hx hby hml0 hZ hown hnm hret hlk X0 e0
  have hml : c.maxLocals = 3 := hml0
  have N0 := Fr.nil n0
  have Kp : Keep h0 h0 [] := Keep.refl h0 _
  show Go _ _ _ _ _ _ _ (s₁.setTop (mkF m 0 #[.val (.int x1), .val (.int x2), .val .null] []))
  refine Go.of (fun _ q => XS.iloadN X0.here hx rfl (hb hby d18_0) rfl q) ?_
  show Go _ _ _ _ _ _ _ (s₁.setTop (mkF m 1 #[.val (.int x1), .val (.int x2), .val .null] [(.int x1)]))
  refine Go.of (fun _ q => XS.ifNo X0.here hx rfl (hb hby d18_1) rfl ((if0 _ _).trans (flt h1).1) q) ?_
  show Go _ _ _ _ _ _ _ (s₁.setTop (mkF m 4 #[.val (.int x1), .val (.int x2), .val .null] []))
  refine Go.of (fun _ q => XS.iloadN X0.here hx rfl (hb hby d18_4) rfl q) ?_
  show Go _ _ _ _ _ _ _ (s₁.setTop (mkF m 5 #[.val (.int x1), .val (.int x2), .val .null] [(.int x1)]))
  refine Go.of (fun _ q => XS.iloadN X0.here hx rfl (hb hby d18_5) rfl q) ?_
  show Go _ _ _ _ _ _ _ (s₁.setTop (mkF m 6 #[.val (.int x1), .val (.int x2), .val .null] [(.int x2), (.int x1)]))
  refine Go.of (fun _ q => XS.icmpYes X0.here hx rfl (pc0 := 6) (pc' := 16) rfl (hb hby d18_6) rfl (tlt h2).1 (by decide) (by decide) q) ?_
  show Go _ _ _ _ _ _ _ (s₁.setTop (mkF m 16 #[.val (.int x1), .val (.int x2), .val .null] []))
  refine Go.of (fun _ q => XS.iloadN X0.here hx rfl (hb hby d18_16) rfl q) ?_
  show Go _ _ _ _ _ _ _ (s₁.setTop (mkF m 17 #[.val (.int x1), .val (.int x2), .val .null] [(.int x1)]))
  refine Go.retI X0 hx hlk hret (hb hby d18_17) (by decide) (by decide) ?_
  rw [e0]
  exact ⟨rfl, N0, rfl⟩
theorem pd1 : parseMethodDescriptor "(IILjava/util/function/BiFunction;)I" = some ⟨[.int, .int, (.object "java/util/function/BiFunction")], some .int⟩ := by decide +kernel
theorem d17_0 : decode jdk_31_method_17_code 0 = .ok (.iload_n 0, 1) := by decide +kernel
theorem d17_1 : decode jdk_31_method_17_code 1 = .ok (.iload_n 1, 1) := by decide +kernel
theorem d17_2 : decode jdk_31_method_17_code 2 = .ok (.aconst_null, 1) := by decide +kernel
theorem d17_3 : decode jdk_31_method_17_code 3 = .ok (.invokestatic 105, 3) := by decide +kernel
theorem d17_6 : decode jdk_31_method_17_code 6 = .ok (.ireturn, 1) := by decide +kernel
theorem pn5 : plainName "java/util/Objects" = true := by first | (simp [plainName, overriddenIn]; done) | decide +kernel
theorem ef_17 (m : MethodId) (x1 : Int32) (x2 : Int32) : entryFrame m #[(.int x1), (.int x2)] 2 = mkF m 0 #[.val (.int x1), .val (.int x2)] [] := by first | (simp [entryFrame, mkF, argsToLocals, Value.category]; done) | rfl
def Q17 (Z : State) (x1 : Int32) (x2 : Int32) (h0 : Heap) (n0 : Nat) (v : Option Value) (h : Heap) (L : List Loc) : Prop := v = some (.int x1) ∧ Fr n0 L ∧ h = h0
set_option maxRecDepth 65536 in
set_option maxHeartbeats 40000000 in
theorem rm17 (l : Launch) (Z : State) (a0 : Array Value) (hw : ∀ d ∈ tables_1, d.before a0 Z = true) (x1 : Int32) (x2 : Int32) (h0 : Heap) (n0 : Nat) (Zs : n0 ≤ h0.size) (h1 : ¬ x1 < (0 : Int32)) (h2 : x1 < x2) :
    Con l Z (⟨"java/util/Objects", "checkIndex", "(II)I"⟩ : MethodName) jdk_31_method_17_code 2 (some .int) ({ frames := 1, cells := 0, slots := 0, locals := 14 } : Room) #[(.int x1), (.int x2)] h0 (Q17 Z x1 x2 h0 n0) := by
  refine Con.intro (plainFor_of_name pn5) (fun m => ef_17 m x1 x2) ?_
  intro p e s m below meth c s₁ hx hby hml0 hZ hown hnm hret hlk X0 e0
  have hml : c.maxLocals = 2 := hml0
  have N0 := Fr.nil n0
  have Kp : Keep h0 h0 [] := Keep.refl h0 _
  show Go _ _ _ _ _ _ _ (s₁.setTop (mkF m 0 #[.val (.int x1), .val (.int x2)] []))
  refine Go.of (fun _ q => XS.iloadN X0.here hx rfl (hb hby d17_0) rfl q) ?_
  show Go _ _ _ _ _ _ _ (s₁.setTop (mkF m 1 #[.val (.int x1), .val (.int x2)] [(.int x1)]))
  refine Go.of (fun _ q => XS.iloadN X0.here hx rfl (hb hby d17_1) rfl q) ?_
  show Go _ _ _ _ _ _ _ (s₁.setTop (mkF m 2 #[.val (.int x1), .val (.int x2)] [(.int x2), (.int x1)]))
  refine Go.of (fun _ q => XS.aconstNull X0.here hx rfl (hb hby d17_2) q) ?_
  show Go _ _ _ _ _ _ _ (s₁.setTop (mkF m 3 #[.val (.int x1), .val (.int x2)] [.null, (.int x2), (.int x1)]))
  refine Go.static X0 hx hZ (y := (⟨"jdk/internal/util/Preconditions", "checkIndex", "(IILjava/util/function/BiFunction;)I"⟩ : MethodName)) (argsL := [(.int x1), (.int x2), .null]) hown (hw _ (List.mem_of_getElem? (i := 93) rfl)) (hw _ (List.mem_of_getElem? (i := 94) rfl)) (hw _ (List.mem_of_getElem? (i := 95) rfl)) (hw _ (List.mem_of_getElem? (i := 96) rfl)) (by decide) 0 e0 (rm18 l Z a0 hw x1 x2 h0 n0 Zs h1 h2) (by decide) (by decide) (by decide) (by decide) (g := (mkF m 3 #[.val (.int x1), .val (.int x2)] [.null, (.int x2), (.int x1)])) rfl (by rw [hml]; rfl) (rest := []) (lenOf pd1 rfl) rfl (by show 2 * 0 + _ ≤ _; exact Nat.le_of_eq rfl) (hb hby d17_3) ?_
  intro T1 v1 L1 X1 q1
  obtain ⟨rfl, Nq1, e1⟩ := q1
  have N1 := Fr.app N0 Nq1
  show Go _ _ _ _ _ _ _ (T1.setTop (mkF m 6 #[.val (.int x1), .val (.int x2)] [(.int x1)]))
  refine Go.retI X1 hx hlk hret (hb hby d17_6) (by decide) (by decide) ?_
  rw [e1]
  exact ⟨rfl, N1, rfl⟩
theorem pd2 : parseMethodDescriptor "()I" = some ⟨[], some .int⟩ := by decide +kernel
theorem pd3 : parseMethodDescriptor "(II)I" = some ⟨[.int, .int], some .int⟩ := by decide +kernel
theorem d14_0 : decode prog_15_method_13_code 0 = .ok (.getstatic 67, 3) := by decide +kernel
theorem d14_3 : decode prog_15_method_13_code 3 = .ok (.aload_n 0, 1) := by decide +kernel
theorem d14_4 : decode prog_15_method_13_code 4 = .ok (.invokevirtual 70, 3) := by decide +kernel
theorem d14_7 : decode prog_15_method_13_code 7 = .ok (.iaload, 1) := by decide +kernel
theorem d14_8 : decode prog_15_method_13_code 8 = .ok (.iload_n 1, 1) := by decide +kernel
theorem d14_9 : decode prog_15_method_13_code 9 = .ok (.iconst 1, 1) := by decide +kernel
theorem d14_10 : decode prog_15_method_13_code 10 = .ok (.isub, 1) := by decide +kernel
theorem d14_11 : decode prog_15_method_13_code 11 = .ok (.aload_n 0, 1) := by decide +kernel
theorem d14_12 : decode prog_15_method_13_code 12 = .ok (.invokevirtual 74, 3) := by decide +kernel
theorem d14_15 : decode prog_15_method_13_code 15 = .ok (.invokestatic 118, 3) := by decide +kernel
theorem d14_18 : decode prog_15_method_13_code 18 = .ok (.iadd, 1) := by decide +kernel
theorem d14_19 : decode prog_15_method_13_code 19 = .ok (.ireturn, 1) := by decide +kernel
theorem ef_14 (m : MethodId) (sc : Addr) (x1 : Int32) : entryFrame m #[(.ref sc), (.int x1)] 2 = mkF m 0 #[.val (.ref sc), .val (.int x1)] [] := by first | (simp [entryFrame, mkF, argsToLocals, Value.category]; done) | rfl
def Q14 (Z : State) (sc : Addr) (x1 : Int32) (k : Nat) (fi : Addr) (kf : ClassId) (h0 : Heap) (n0 : Nat) (v : Option Value) (h : Heap) (L : List Loc) : Prop := v = some (.int (own_first k + (x1 - (1 : Int32)))) ∧ Fr n0 L ∧ h = h0
set_option maxRecDepth 65536 in
set_option maxHeartbeats 40000000 in
theorem rm14 (l : Launch) (Z : State) (a0 : Array Value) (hw : ∀ d ∈ tables_1, d.before a0 Z = true) (sc : Addr) (x1 : Int32) (k : Nat) (fi : Addr) (kf : ClassId) (h0 : Heap) (n0 : Nat) (Zs : n0 ≤ h0.size) (Od : Old Z n0 h0) (E_sc : Exa Z h0 sc "com/example/tundra_ascent/tundraascent/rules/Section") (F_sc_ordinal : Fld Z h0 sc "java/lang/Enum" "ordinal" "I" (.int (Int32.ofNat k))) (F_sc_eyeballSpaces : Fld Z h0 sc "com/example/tundra_ascent/tundraascent/rules/Section" "eyeballSpaces" "I" (.int (own_szN k))) (hk : k < 12) (h1 : 1 ≤ x1.toInt) (h2 : x1.toInt ≤ (own_szN k).toInt) (Sfi : Sta Z Z.heap "com/example/tundra_ascent/tundraascent/rules/Display" "FIRST" "[I" (.ref fi)) (Afi : AF Z Z.heap fi kf .int 12 (fun i => .int (own_first i))) :
    Con l Z (⟨"com/example/tundra_ascent/tundraascent/rules/Display", "index", "(Lcom/example/tundra_ascent/tundraascent/rules/Section;I)I"⟩ : MethodName) prog_15_method_13_code 2 (some .int) ({ frames := 2, cells := 0, slots := 0, locals := 28 } : Room) #[(.ref sc), (.int x1)] h0 (Q14 Z sc x1 k fi kf h0 n0) := by
  refine Con.intro (plainFor_of_name pn1) (fun m => ef_14 m sc x1) ?_
  intro p e s m below meth c s₁ hx hby hml0 hZ hown hnm hret hlk X0 e0
  have hml : c.maxLocals = 2 := hml0
  have N0 := Fr.nil n0
  have Kp : Keep h0 h0 [] := Keep.refl h0 _
  show Go _ _ _ _ _ _ _ (s₁.setTop (mkF m 0 #[.val (.ref sc), .val (.int x1)] []))
  obtain ⟨T1, X1, e1, st1⟩ := getS2 X0 hx hZ hown (host := "") (Or.inl (hw _ (List.mem_of_getElem? (i := 71) rfl))) Via.refl e0 (Sta.ext Od.2 Sfi) (g := (mkF m 0 #[.val (.ref sc), .val (.int x1)] [])) rfl (hb hby d14_0)
  refine Go.of st1 ?_
  show Go _ _ _ _ _ _ _ (T1.setTop (mkF m 3 #[.val (.ref sc), .val (.int x1)] [(.ref fi)]))
  refine Go.of (fun _ q => XS.aloadN X1.here hx rfl (hb hby d14_3) rfl rfl q) ?_
  show Go _ _ _ _ _ _ _ (T1.setTop (mkF m 4 #[.val (.ref sc), .val (.int x1)] [(.ref sc), (.ref fi)]))
  refine Go.virtualUp X1 hx hZ (owner := "java/lang/Enum") (y := (⟨"com/example/tundra_ascent/tundraascent/rules/Section", "ordinal", "()I"⟩ : MethodName)) (z := (⟨"java/lang/Enum", "ordinal", "()I"⟩ : MethodName)) (a := sc) (argsL := []) hown (hw _ (List.mem_of_getElem? (i := 73) rfl)) (hw _ (List.mem_of_getElem? (i := 74) rfl)) (hw _ (List.mem_of_getElem? (i := 75) rfl)) (hw _ (List.mem_of_getElem? (i := 77) rfl)) (hw _ (List.mem_of_getElem? (i := 76) rfl)) (hw _ (List.mem_of_getElem? (i := 78) rfl)) (hw _ (List.mem_of_getElem? (i := 79) rfl)) (by decide) 1 e1 E_sc (rm15 l Z a0 hw sc (Int32.ofNat k) h0 n0 Zs F_sc_ordinal) (by decide) (by decide) (by decide) (by decide) (g := (mkF m 4 #[.val (.ref sc), .val (.int x1)] [(.ref sc), (.ref fi)])) rfl (by rw [hml]; rfl) (rest := [(.ref fi)]) (lenOf pd2 rfl) rfl (by show 2 * 0 + _ ≤ _; exact Nat.le_of_eq rfl) (hb hby d14_4) ?_
  intro T2 v2 L2 X2 q2
  obtain ⟨rfl, Nq2, e2⟩ := q2
  have N2 := Fr.app N0 Nq2
  have A_fi := AF.ext Afi Od.2
  show Go _ _ _ _ _ _ _ (T2.setTop (mkF m 7 #[.val (.ref sc), .val (.int x1)] [(.int (Int32.ofNat k)), (.ref fi)]))
  refine Go.of (fun _ q => AF.iaload A_fi X2 hx hZ e2 (own_ixk (by decide) hk rfl) (v := (.int (own_first k))) rfl (g := (mkF m 7 #[.val (.ref sc), .val (.int x1)] [(.int (Int32.ofNat k)), (.ref fi)])) rfl rfl (hb hby d14_7) q) ?_
  show Go _ _ _ _ _ _ _ (T2.setTop (mkF m 8 #[.val (.ref sc), .val (.int x1)] [(.int (own_first k))]))
  refine Go.of (fun _ q => XS.iloadN X2.here hx rfl (hb hby d14_8) rfl q) ?_
  show Go _ _ _ _ _ _ _ (T2.setTop (mkF m 9 #[.val (.ref sc), .val (.int x1)] [(.int x1), (.int (own_first k))]))
  refine Go.of (fun _ q => XS.iconst X2.here hx rfl (hb hby d14_9) q) ?_
  show Go _ _ _ _ _ _ _ (T2.setTop (mkF m 10 #[.val (.ref sc), .val (.int x1)] [(.int (1 : Int32)), (.int x1), (.int (own_first k))]))
  refine Go.of (fun _ q => XS.isub X2.here hx rfl (hb hby d14_10) rfl q) ?_
  show Go _ _ _ _ _ _ _ (T2.setTop (mkF m 11 #[.val (.ref sc), .val (.int x1)] [(.int (x1 - (1 : Int32))), (.int (own_first k))]))
  refine Go.of (fun _ q => XS.aloadN X2.here hx rfl (hb hby d14_11) rfl rfl q) ?_
  show Go _ _ _ _ _ _ _ (T2.setTop (mkF m 12 #[.val (.ref sc), .val (.int x1)] [(.ref sc), (.int (x1 - (1 : Int32))), (.int (own_first k))]))
  refine Go.virtual X2 hx hZ (y := (⟨"com/example/tundra_ascent/tundraascent/rules/Section", "eyeballSpaces", "()I"⟩ : MethodName)) (z := (⟨"com/example/tundra_ascent/tundraascent/rules/Section", "eyeballSpaces", "()I"⟩ : MethodName)) (a := sc) (argsL := []) hown (hw _ (List.mem_of_getElem? (i := 82) rfl)) (hw _ (List.mem_of_getElem? (i := 83) rfl)) (notFace_of_selects (args := #[]) (mvT hZ (hw _ (List.mem_of_getElem? (i := 85) rfl)))) (hw _ (List.mem_of_getElem? (i := 85) rfl)) (hw _ (List.mem_of_getElem? (i := 84) rfl)) (hw _ (List.mem_of_getElem? (i := 54) rfl)) (hw _ (List.mem_of_getElem? (i := 86) rfl)) (by decide) 2 e2 E_sc (rm16 l Z a0 hw sc (own_szN k) h0 n0 Zs F_sc_eyeballSpaces) (by decide) (by decide) (by decide) (by decide) (g := (mkF m 12 #[.val (.ref sc), .val (.int x1)] [(.ref sc), (.int (x1 - (1 : Int32))), (.int (own_first k))])) rfl (by rw [hml]; rfl) (rest := [(.int (x1 - (1 : Int32))), (.int (own_first k))]) (lenOf pd2 rfl) rfl (by show 2 * 0 + _ ≤ _; exact Nat.le_of_eq rfl) (hb hby d14_12) ?_
  intro T3 v3 L3 X3 q3
  obtain ⟨rfl, Nq3, e3⟩ := q3
  have N3 := Fr.app N2 Nq3
  show Go _ _ _ _ _ _ _ (T3.setTop (mkF m 15 #[.val (.ref sc), .val (.int x1)] [(.int (own_szN k)), (.int (x1 - (1 : Int32))), (.int (own_first k))]))
  refine Go.static X3 hx hZ (y := (⟨"java/util/Objects", "checkIndex", "(II)I"⟩ : MethodName)) (argsL := [(.int (x1 - (1 : Int32))), (.int (own_szN k))]) hown (hw _ (List.mem_of_getElem? (i := 89) rfl)) (hw _ (List.mem_of_getElem? (i := 90) rfl)) (hw _ (List.mem_of_getElem? (i := 91) rfl)) (hw _ (List.mem_of_getElem? (i := 92) rfl)) (by decide) 1 e3 (rm17 l Z a0 hw (x1 - (1 : Int32)) (own_szN k) h0 n0 Zs (own_ci hk h1 h2).1 (own_ci hk h1 h2).2) (by decide) (by decide) (by decide) (by decide) (g := (mkF m 15 #[.val (.ref sc), .val (.int x1)] [(.int (own_szN k)), (.int (x1 - (1 : Int32))), (.int (own_first k))])) rfl (by rw [hml]; rfl) (rest := [(.int (own_first k))]) (lenOf pd3 rfl) rfl (by show 2 * 0 + _ ≤ _; exact Nat.le_of_eq rfl) (hb hby d14_15) ?_
  intro T4 v4 L4 X4 q4
  obtain ⟨rfl, Nq4, e4⟩ := q4
  have N4 := Fr.app N3 Nq4
  show Go _ _ _ _ _ _ _ (T4.setTop (mkF m 18 #[.val (.ref sc), .val (.int x1)] [(.int (x1 - (1 : Int32))), (.int (own_first k))]))
  refine Go.of (fun _ q => XS.iadd X4.here hx rfl (hb hby d14_18) rfl q) ?_
  show Go _ _ _ _ _ _ _ (T4.setTop (mkF m 19 #[.val (.ref sc), .val (.int x1)] [(.int ((own_first k) + (x1 - (1 : Int32))))]))
  refine Go.retI X4 hx hlk hret (hb hby d14_19) (by decide) (by decide) ?_
  rw [e4]
  exact ⟨rfl, N4, rfl⟩
theorem pd4 : parseMethodDescriptor "(Lcom/example/tundra_ascent/tundraascent/rules/Section;I)I" = some ⟨[(.object "com/example/tundra_ascent/tundraascent/rules/Section"), .int], some .int⟩ := by decide +kernel
theorem d13_0 : decode prog_15_method_5_code 0 = .ok (.aload_n 0, 1) := by decide +kernel
theorem d13_1 : decode prog_15_method_5_code 1 = .ok (.getfield 15, 3) := by decide +kernel
theorem d13_4 : decode prog_15_method_5_code 4 = .ok (.aload_n 1, 1) := by decide +kernel
theorem d13_5 : decode prog_15_method_5_code 5 = .ok (.iload_n 2, 1) := by decide +kernel
theorem d13_6 : decode prog_15_method_5_code 6 = .ok (.invokestatic 37, 3) := by decide +kernel
theorem d13_9 : decode prog_15_method_5_code 9 = .ok (.aaload, 1) := by decide +kernel
theorem d13_10 : decode prog_15_method_5_code 10 = .ok (.areturn, 1) := by decide +kernel
theorem ef_13 (m : MethodId) (a : Addr) (sc : Addr) (x1 : Int32) : entryFrame m #[(.ref a), (.ref sc), (.int x1)] 3 = mkF m 0 #[.val (.ref a), .val (.ref sc), .val (.int x1)] [] := by first | (simp [entryFrame, mkF, argsToLocals, Value.category]; done) | rfl
def Q13 (Z : State) (a : Addr) (sc : Addr) (x1 : Int32) (k : Nat) (fi : Addr) (kf : ClassId) (pw : Addr) (kp : ClassId) (f : Nat → Value) (h0 : Heap) (n0 : Nat) (v : Option Value) (h : Heap) (L : List Loc) : Prop := v = some .null ∧ Fr n0 L ∧ h = h0
set_option maxRecDepth 65536 in
set_option maxHeartbeats 40000000 in
theorem rm13 (l : Launch) (Z : State) (a0 : Array Value) (hw : ∀ d ∈ tables_1, d.before a0 Z = true) (a : Addr) (sc : Addr) (x1 : Int32) (k : Nat) (fi : Addr) (kf : ClassId) (pw : Addr) (kp : ClassId) (f : Nat → Value) (h0 : Heap) (n0 : Nat) (Zs : n0 ≤ h0.size) (Od : Old Z n0 h0) (F_a_pawns : Fld Z h0 a "com/example/tundra_ascent/tundraascent/rules/Display" "pawns" "[Lcom/example/tundra_ascent/tundraascent/rules/Animal;" (.ref pw)) (A_pw : AF Z h0 pw kp (.object "com/example/tundra_ascent/tundraascent/rules/Animal") 41 f) (E_sc : Exa Z h0 sc "com/example/tundra_ascent/tundraascent/rules/Section") (F_sc_ordinal : Fld Z h0 sc "java/lang/Enum" "ordinal" "I" (.int (Int32.ofNat k))) (F_sc_eyeballSpaces : Fld Z h0 sc "com/example/tundra_ascent/tundraascent/rules/Section" "eyeballSpaces" "I" (.int (own_szN k))) (hk : k < 12) (h1 : 1 ≤ x1.toInt) (h2 : x1.toInt ≤ (own_szN k).toInt) (Sfi : Sta Z Z.heap "com/example/tundra_ascent/tundraascent/rules/Display" "FIRST" "[I" (.ref fi)) (Afi : AF Z Z.heap fi kf .int 12 (fun i => .int (own_first i))) (hnull : f (own_idx k x1) = .null) :
    Con l Z (⟨"com/example/tundra_ascent/tundraascent/rules/Display", "owner", "(Lcom/example/tundra_ascent/tundraascent/rules/Section;I)Lcom/example/tundra_ascent/tundraascent/rules/Animal;"⟩ : MethodName) prog_15_method_5_code 3 (some (.object "com/example/tundra_ascent/tundraascent/rules/Animal")) ({ frames := 3, cells := 0, slots := 0, locals := 42 } : Room) #[(.ref a), (.ref sc), (.int x1)] h0 (Q13 Z a sc x1 k fi kf pw kp f h0 n0) := by
  refine Con.intro (plainFor_of_name pn1) (fun m => ef_13 m a sc x1) ?_
  intro p e s m below meth c s₁ hx hby hml0 hZ hown hnm hret hlk X0 e0
  have hml : c.maxLocals = 3 := hml0
  have N0 := Fr.nil n0
  have Kp : Keep h0 h0 [] := Keep.refl h0 _
  show Go _ _ _ _ _ _ _ (s₁.setTop (mkF m 0 #[.val (.ref a), .val (.ref sc), .val (.int x1)] []))
  refine Go.of (fun _ q => XS.aloadN X0.here hx rfl (hb hby d13_0) rfl rfl q) ?_
  show Go _ _ _ _ _ _ _ (s₁.setTop (mkF m 1 #[.val (.ref a), .val (.ref sc), .val (.int x1)] [(.ref a)]))
  obtain ⟨T1, X1, e1, st1⟩ := getF X0 hx hZ hown (host := "") (Or.inl (hw _ (List.mem_of_getElem? (i := 30) rfl))) Via.refl e0 F_a_pawns (g := (mkF m 1 #[.val (.ref a), .val (.ref sc), .val (.int x1)] [(.ref a)])) rfl rfl (hb hby d13_1)
  refine Go.of st1 ?_
  show Go _ _ _ _ _ _ _ (T1.setTop (mkF m 4 #[.val (.ref a), .val (.ref sc), .val (.int x1)] [(.ref pw)]))
  refine Go.of (fun _ q => XS.aloadN X1.here hx rfl (hb hby d13_4) rfl rfl q) ?_
  show Go _ _ _ _ _ _ _ (T1.setTop (mkF m 5 #[.val (.ref a), .val (.ref sc), .val (.int x1)] [(.ref sc), (.ref pw)]))
  refine Go.of (fun _ q => XS.iloadN X1.here hx rfl (hb hby d13_5) rfl q) ?_
  show Go _ _ _ _ _ _ _ (T1.setTop (mkF m 6 #[.val (.ref a), .val (.ref sc), .val (.int x1)] [(.int x1), (.ref sc), (.ref pw)]))
  refine Go.static X1 hx hZ (y := (⟨"com/example/tundra_ascent/tundraascent/rules/Display", "index", "(Lcom/example/tundra_ascent/tundraascent/rules/Section;I)I"⟩ : MethodName)) (argsL := [(.ref sc), (.int x1)]) hown (hw _ (List.mem_of_getElem? (i := 68) rfl)) (hw _ (List.mem_of_getElem? (i := 69) rfl)) (hw _ (List.mem_of_getElem? (i := 19) rfl)) (hw _ (List.mem_of_getElem? (i := 70) rfl)) (by decide) 1 e1 (rm14 l Z a0 hw sc x1 k fi kf h0 n0 Zs Od E_sc F_sc_ordinal F_sc_eyeballSpaces hk h1 h2 Sfi Afi) (by decide) (by decide) (by decide) (by decide) (g := (mkF m 6 #[.val (.ref a), .val (.ref sc), .val (.int x1)] [(.int x1), (.ref sc), (.ref pw)])) rfl (by rw [hml]; rfl) (rest := [(.ref pw)]) (lenOf pd4 rfl) rfl (by show 2 * 0 + _ ≤ _; exact Nat.le_of_eq rfl) (hb hby d13_6) ?_
  intro T2 v2 L2 X2 q2
  obtain ⟨rfl, Nq2, e2⟩ := q2
  have N2 := Fr.app N0 Nq2
  show Go _ _ _ _ _ _ _ (T2.setTop (mkF m 9 #[.val (.ref a), .val (.ref sc), .val (.int x1)] [(.int (own_first k + (x1 - (1 : Int32)))), (.ref pw)]))
  refine Go.of (fun _ q => AF.aaload A_pw rfl X2 hx hZ e2 (own_ix41 hk h1 h2) (v := .null) hnull (g := (mkF m 9 #[.val (.ref a), .val (.ref sc), .val (.int x1)] [(.int (own_first k + (x1 - (1 : Int32)))), (.ref pw)])) rfl rfl (hb hby d13_9) q) ?_
  show Go _ _ _ _ _ _ _ (T2.setTop (mkF m 10 #[.val (.ref a), .val (.ref sc), .val (.int x1)] [.null]))
  refine Go.retA X2 hx hlk hret rfl rfl (hb hby d13_10) (by decide) (by decide) ?_
  rw [e2]
  exact ⟨rfl, N2, rfl⟩
theorem pd5 : parseMethodDescriptor "(Lcom/example/tundra_ascent/tundraascent/rules/Section;I)Lcom/example/tundra_ascent/tundraascent/rules/Animal;" = some ⟨[(.object "com/example/tundra_ascent/tundraascent/rules/Section"), .int], some (.object "com/example/tundra_ascent/tundraascent/rules/Animal")⟩ := by decide +kernel
theorem d12_0 : decode prog_15_method_8_code 0 = .ok (.aload_n 0, 1) := by decide +kernel
theorem d12_1 : decode prog_15_method_8_code 1 = .ok (.aload_n 1, 1) := by decide +kernel
theorem d12_2 : decode prog_15_method_8_code 2 = .ok (.iload_n 2, 1) := by decide +kernel
theorem d12_3 : decode prog_15_method_8_code 3 = .ok (.invokevirtual 27, 3) := by decide +kernel
theorem d12_6 : decode prog_15_method_8_code 6 = .ok (.ifnull 21, 3) := by decide +kernel
theorem d12_27 : decode prog_15_method_8_code 27 = .ok (.aload_n 1, 1) := by decide +kernel
theorem d12_28 : decode prog_15_method_8_code 28 = .ok (.iload_n 2, 1) := by decide +kernel
theorem d12_29 : decode prog_15_method_8_code 29 = .ok (.invokestatic 37, 3) := by decide +kernel
theorem d12_32 : decode prog_15_method_8_code 32 = .ok (.istore 4, 2) := by decide +kernel
theorem d12_34 : decode prog_15_method_8_code 34 = .ok (.aload_n 0, 1) := by decide +kernel
theorem d12_35 : decode prog_15_method_8_code 35 = .ok (.getfield 15, 3) := by decide +kernel
theorem d12_38 : decode prog_15_method_8_code 38 = .ok (.iload 4, 2) := by decide +kernel
theorem d12_40 : decode prog_15_method_8_code 40 = .ok (.aload_n 3, 1) := by decide +kernel
theorem d12_41 : decode prog_15_method_8_code 41 = .ok (.aastore, 1) := by decide +kernel
theorem d12_42 : decode prog_15_method_8_code 42 = .ok (.aload_n 0, 1) := by decide +kernel
theorem d12_43 : decode prog_15_method_8_code 43 = .ok (.dup, 1) := by decide +kernel
theorem d12_44 : decode prog_15_method_8_code 44 = .ok (.getfield 45, 3) := by decide +kernel
theorem d12_47 : decode prog_15_method_8_code 47 = .ok (.lconst 1, 1) := by decide +kernel
theorem d12_48 : decode prog_15_method_8_code 48 = .ok (.iload 4, 2) := by decide +kernel
theorem d12_50 : decode prog_15_method_8_code 50 = .ok (.lshl, 1) := by decide +kernel
theorem d12_51 : decode prog_15_method_8_code 51 = .ok (.lor, 1) := by decide +kernel
theorem d12_52 : decode prog_15_method_8_code 52 = .ok (.putfield 45, 3) := by decide +kernel
theorem d12_55 : decode prog_15_method_8_code 55 = .ok (.return_, 1) := by decide +kernel
theorem ef_12 (m : MethodId) (a : Addr) (sc : Addr) (x1 : Int32) (b : Addr) : entryFrame m #[(.ref a), (.ref sc), (.int x1), (.ref b)] 5 = mkF m 0 #[.val (.ref a), .val (.ref sc), .val (.int x1), .val (.ref b), .unset] [] := by first | (simp [entryFrame, mkF, argsToLocals, Value.category]; done) | rfl
def Q12 (Z : State) (a : Addr) (sc : Addr) (x1 : Int32) (b : Addr) (k : Nat) (fi : Addr) (kf : ClassId) (pw : Addr) (kp : ClassId) (f : Nat → Value) (u : Int64) (h0 : Heap) (n0 : Nat) (v : Option Value) (h : Heap) (L : List Loc) : Prop := ∃ zo : Int64, v = none ∧ Fr n0 L ∧ Keep h0 h [a, pw] ∧ Exa Z h a "com/example/tundra_ascent/tundraascent/rules/Display" ∧ Fld Z h a "com/example/tundra_ascent/tundraascent/rules/Display" "pawns" "[Lcom/example/tundra_ascent/tundraascent/rules/Animal;" (.ref pw) ∧ Fld Z h a "com/example/tundra_ascent/tundraascent/rules/Display" "occupied" "J" (.long zo) ∧ AF Z h pw kp (.object "com/example/tundra_ascent/tundraascent/rules/Animal") 41 (updV f (own_idx k x1) (.ref b))
set_option maxRecDepth 65536 in
set_option maxHeartbeats 40000000 in
theorem rm12 (l : Launch) (Z : State) (a0 : Array Value) (hw : ∀ d ∈ tables_1, d.before a0 Z = true) (a : Addr) (sc : Addr) (x1 : Int32) (b : Addr) (k : Nat) (fi : Addr) (kf : ClassId) (pw : Addr) (kp : ClassId) (f : Nat → Value) (u : Int64) (h0 : Heap) (n0 : Nat) (Zs : n0 ≤ h0.size) (Od : Old Z n0 h0) (E_a : Exa Z h0 a "com/example/tundra_ascent/tundraascent/rules/Display") (F_a_pawns : Fld Z h0 a "com/example/tundra_ascent/tundraascent/rules/Display" "pawns" "[Lcom/example/tundra_ascent/tundraascent/rules/Animal;" (.ref pw)) (F_a_occupied : Fld Z h0 a "com/example/tundra_ascent/tundraascent/rules/Display" "occupied" "J" (.long u)) (A_pw : AF Z h0 pw kp (.object "com/example/tundra_ascent/tundraascent/rules/Animal") 41 f) (E_sc : Exa Z h0 sc "com/example/tundra_ascent/tundraascent/rules/Section") (F_sc_ordinal : Fld Z h0 sc "java/lang/Enum" "ordinal" "I" (.int (Int32.ofNat k))) (F_sc_eyeballSpaces : Fld Z h0 sc "com/example/tundra_ascent/tundraascent/rules/Section" "eyeballSpaces" "I" (.int (own_szN k))) (E_b : Exa Z h0 b "com/example/tundra_ascent/tundraascent/rules/Animal") (g_a : n0 ≤ a) (g_pw : n0 ≤ pw) (ne_a_pw : a ≠ pw) (hk : k < 12) (h1 : 1 ≤ x1.toInt) (h2 : x1.toInt ≤ (own_szN k).toInt) (Sfi : Sta Z Z.heap "com/example/tundra_ascent/tundraascent/rules/Display" "FIRST" "[I" (.ref fi)) (Afi : AF Z Z.heap fi kf .int 12 (fun i => .int (own_first i))) (hnull : f (own_idx k x1) = .null) (hov : Ovr Z kp "com/example/tundra_ascent/tundraascent/rules/Animal") :
    Con l Z (⟨"com/example/tundra_ascent/tundraascent/rules/Display", "place", "(Lcom/example/tundra_ascent/tundraascent/rules/Section;ILcom/example/tundra_ascent/tundraascent/rules/Animal;)V"⟩ : MethodName) prog_15_method_8_code 5 none ({ frames := 4, cells := 0, slots := 0, locals := 56 } : Room) #[(.ref a), (.ref sc), (.int x1), (.ref b)] h0 (Q12 Z a sc x1 b k fi kf pw kp f u h0 n0) := by
  refine Con.intro (plainFor_of_name pn1) (fun m => ef_12 m a sc x1 b) ?_
  intro p e s m below meth c s₁ hx hby hml0 hZ hown hnm hret hlk X0 e0
  have hml : c.maxLocals = 5 := hml0
  have N0 := Fr.nil n0
  have Kp : Keep h0 h0 [a, pw] := Keep.refl h0 _
  show Go _ _ _ _ _ _ _ (s₁.setTop (mkF m 0 #[.val (.ref a), .val (.ref sc), .val (.int x1), .val (.ref b), .unset] []))
  refine Go.of (fun _ q => XS.aloadN X0.here hx rfl (hb hby d12_0) rfl rfl q) ?_
  show Go _ _ _ _ _ _ _ (s₁.setTop (mkF m 1 #[.val (.ref a), .val (.ref sc), .val (.int x1), .val (.ref b), .unset] [(.ref a)]))
  refine Go.of (fun _ q => XS.aloadN X0.here hx rfl (hb hby d12_1) rfl rfl q) ?_
  show Go _ _ _ _ _ _ _ (s₁.setTop (mkF m 2 #[.val (.ref a), .val (.ref sc), .val (.int x1), .val (.ref b), .unset] [(.ref sc), (.ref a)]))
  refine Go.of (fun _ q => XS.iloadN X0.here hx rfl (hb hby d12_2) rfl q) ?_
  show Go _ _ _ _ _ _ _ (s₁.setTop (mkF m 3 #[.val (.ref a), .val (.ref sc), .val (.int x1), .val (.ref b), .unset] [(.int x1), (.ref sc), (.ref a)]))
  refine Go.virtual X0 hx hZ (y := (⟨"com/example/tundra_ascent/tundraascent/rules/Display", "owner", "(Lcom/example/tundra_ascent/tundraascent/rules/Section;I)Lcom/example/tundra_ascent/tundraascent/rules/Animal;"⟩ : MethodName)) (z := (⟨"com/example/tundra_ascent/tundraascent/rules/Display", "owner", "(Lcom/example/tundra_ascent/tundraascent/rules/Section;I)Lcom/example/tundra_ascent/tundraascent/rules/Animal;"⟩ : MethodName)) (a := a) (argsL := [(.ref sc), (.int x1)]) hown (hw _ (List.mem_of_getElem? (i := 63) rfl)) (hw _ (List.mem_of_getElem? (i := 64) rfl)) (notFace_of_selects (args := #[]) (mvT hZ (hw _ (List.mem_of_getElem? (i := 66) rfl)))) (hw _ (List.mem_of_getElem? (i := 66) rfl)) (hw _ (List.mem_of_getElem? (i := 65) rfl)) (hw _ (List.mem_of_getElem? (i := 19) rfl)) (hw _ (List.mem_of_getElem? (i := 67) rfl)) (by decide) 0 e0 E_a (rm13 l Z a0 hw a sc x1 k fi kf pw kp f h0 n0 Zs Od F_a_pawns A_pw E_sc F_sc_ordinal F_sc_eyeballSpaces hk h1 h2 Sfi Afi hnull) (by decide) (by decide) (by decide) (by decide) (g := (mkF m 3 #[.val (.ref a), .val (.ref sc), .val (.int x1), .val (.ref b), .unset] [(.int x1), (.ref sc), (.ref a)])) rfl (by rw [hml]; rfl) (rest := []) (lenOf pd5 rfl) rfl (by show 2 * 0 + _ ≤ _; exact Nat.le_of_eq rfl) (hb hby d12_3) ?_
  intro T1 v1 L1 X1 q1
  obtain ⟨rfl, Nq1, e1⟩ := q1
  have N1 := Fr.app N0 Nq1
  show Go _ _ _ _ _ _ _ (T1.setTop (mkF m 6 #[.val (.ref a), .val (.ref sc), .val (.int x1), .val (.ref b), .unset] [.null]))
  refine Go.of (fun _ q => XS.ifnullYes X1.here hx rfl (pc0 := 6) (pc' := 27) rfl (hb hby d12_6) rfl (by decide) (by decide) q) ?_
  show Go _ _ _ _ _ _ _ (T1.setTop (mkF m 27 #[.val (.ref a), .val (.ref sc), .val (.int x1), .val (.ref b), .unset] []))
  refine Go.of (fun _ q => XS.aloadN X1.here hx rfl (hb hby d12_27) rfl rfl q) ?_
  show Go _ _ _ _ _ _ _ (T1.setTop (mkF m 28 #[.val (.ref a), .val (.ref sc), .val (.int x1), .val (.ref b), .unset] [(.ref sc)]))
  refine Go.of (fun _ q => XS.iloadN X1.here hx rfl (hb hby d12_28) rfl q) ?_
  show Go _ _ _ _ _ _ _ (T1.setTop (mkF m 29 #[.val (.ref a), .val (.ref sc), .val (.int x1), .val (.ref b), .unset] [(.int x1), (.ref sc)]))
  refine Go.static X1 hx hZ (y := (⟨"com/example/tundra_ascent/tundraascent/rules/Display", "index", "(Lcom/example/tundra_ascent/tundraascent/rules/Section;I)I"⟩ : MethodName)) (argsL := [(.ref sc), (.int x1)]) hown (hw _ (List.mem_of_getElem? (i := 68) rfl)) (hw _ (List.mem_of_getElem? (i := 69) rfl)) (hw _ (List.mem_of_getElem? (i := 19) rfl)) (hw _ (List.mem_of_getElem? (i := 70) rfl)) (by decide) 0 e1 (rm14 l Z a0 hw sc x1 k fi kf h0 n0 Zs Od E_sc F_sc_ordinal F_sc_eyeballSpaces hk h1 h2 Sfi Afi) (by decide) (by decide) (by decide) (by decide) (g := (mkF m 29 #[.val (.ref a), .val (.ref sc), .val (.int x1), .val (.ref b), .unset] [(.int x1), (.ref sc)])) rfl (by rw [hml]; rfl) (rest := []) (lenOf pd4 rfl) rfl (by show 2 * 0 + _ ≤ _; exact Nat.le_of_eq rfl) (hb hby d12_29) ?_
  intro T2 v2 L2 X2 q2
  obtain ⟨rfl, Nq2, e2⟩ := q2
  have N2 := Fr.app N1 Nq2
  show Go _ _ _ _ _ _ _ (T2.setTop (mkF m 32 #[.val (.ref a), .val (.ref sc), .val (.int x1), .val (.ref b), .unset] [(.int (own_first k + (x1 - (1 : Int32))))]))
  refine Go.of (fun _ q => XS.istore X2.here hx rfl (hb hby d12_32) rfl (l' := #[.val (.ref a), .val (.ref sc), .val (.int x1), .val (.ref b), .val (.int (own_first k + (x1 - (1 : Int32))))]) rfl q) ?_
  show Go _ _ _ _ _ _ _ (T2.setTop (mkF m 34 #[.val (.ref a), .val (.ref sc), .val (.int x1), .val (.ref b), .val (.int (own_first k + (x1 - (1 : Int32))))] []))
  refine Go.of (fun _ q => XS.aloadN X2.here hx rfl (hb hby d12_34) rfl rfl q) ?_
  show Go _ _ _ _ _ _ _ (T2.setTop (mkF m 35 #[.val (.ref a), .val (.ref sc), .val (.int x1), .val (.ref b), .val (.int (own_first k + (x1 - (1 : Int32))))] [(.ref a)]))
  obtain ⟨T3, X3, e3, st3⟩ := getF X2 hx hZ hown (host := "") (Or.inl (hw _ (List.mem_of_getElem? (i := 30) rfl))) Via.refl e2 F_a_pawns (g := (mkF m 35 #[.val (.ref a), .val (.ref sc), .val (.int x1), .val (.ref b), .val (.int (own_first k + (x1 - (1 : Int32))))] [(.ref a)])) rfl rfl (hb hby d12_35)
  refine Go.of st3 ?_
  show Go _ _ _ _ _ _ _ (T3.setTop (mkF m 38 #[.val (.ref a), .val (.ref sc), .val (.int x1), .val (.ref b), .val (.int (own_first k + (x1 - (1 : Int32))))] [(.ref pw)]))
  refine Go.of (fun _ q => XS.iload X3.here hx rfl (hb hby d12_38) rfl q) ?_
  show Go _ _ _ _ _ _ _ (T3.setTop (mkF m 40 #[.val (.ref a), .val (.ref sc), .val (.int x1), .val (.ref b), .val (.int (own_first k + (x1 - (1 : Int32))))] [(.int (own_first k + (x1 - (1 : Int32)))), (.ref pw)]))
  refine Go.of (fun _ q => XS.aloadN X3.here hx rfl (hb hby d12_40) rfl rfl q) ?_
  show Go _ _ _ _ _ _ _ (T3.setTop (mkF m 41 #[.val (.ref a), .val (.ref sc), .val (.int x1), .val (.ref b), .val (.int (own_first k + (x1 - (1 : Int32))))] [(.ref b), (.int (own_first k + (x1 - (1 : Int32)))), (.ref pw)]))
  obtain ⟨T4, h4, X4, e4, W4, A4', st4⟩ := AF.aastore A_pw rfl X3 hx hZ e3 (i := (own_idx k x1)) (own_ix41 hk h1 h2) (AF.sto A_pw hov (Ins.self E_b)) (g := (mkF m 41 #[.val (.ref a), .val (.ref sc), .val (.int x1), .val (.ref b), .val (.int (own_first k + (x1 - (1 : Int32))))] [(.ref b), (.int (own_first k + (x1 - (1 : Int32)))), (.ref pw)])) rfl rfl (hb hby d12_41)
  refine Go.of st4 ?_
  have Zs := Nat.le_trans Zs (Nat.le_of_eq W4.size.symm)
  have Kp := Kp.wr W4 (Or.inl (List.mem_of_getElem? (i := 1) rfl))
  have Od := Od.wr W4 g_pw
  have E_a := E_a.wr W4
  have F_a_pawns := F_a_pawns.other W4 (Or.inl ne_a_pw)
  have F_a_occupied := F_a_occupied.other W4 (Or.inl ne_a_pw)
  have E_b := E_b.wr W4
  have A_pw : AF Z h4 pw kp (.object "com/example/tundra_ascent/tundraascent/rules/Animal") 41 (updV f (own_idx k x1) (.ref b)) := A4'
  have N4 := Fr.snoc X4 N2 g_pw
  show Go _ _ _ _ _ _ _ (T4.setTop (mkF m 42 #[.val (.ref a), .val (.ref sc), .val (.int x1), .val (.ref b), .val (.int (own_first k + (x1 - (1 : Int32))))] []))
  refine Go.of (fun _ q => XS.aloadN X4.here hx rfl (hb hby d12_42) rfl rfl q) ?_
  show Go _ _ _ _ _ _ _ (T4.setTop (mkF m 43 #[.val (.ref a), .val (.ref sc), .val (.int x1), .val (.ref b), .val (.int (own_first k + (x1 - (1 : Int32))))] [(.ref a)]))
  refine Go.of (fun _ q => XS.dup X4.here hx rfl (hb hby d12_43) rfl rfl q) ?_
  show Go _ _ _ _ _ _ _ (T4.setTop (mkF m 44 #[.val (.ref a), .val (.ref sc), .val (.int x1), .val (.ref b), .val (.int (own_first k + (x1 - (1 : Int32))))] [(.ref a), (.ref a)]))
  obtain ⟨T5, X5, e5, st5⟩ := getF X4 hx hZ hown (host := "") (Or.inl (hw _ (List.mem_of_getElem? (i := 98) rfl))) Via.refl e4 F_a_occupied (g := (mkF m 44 #[.val (.ref a), .val (.ref sc), .val (.int x1), .val (.ref b), .val (.int (own_first k + (x1 - (1 : Int32))))] [(.ref a), (.ref a)])) rfl rfl (hb hby d12_44)
  refine Go.of st5 ?_
  show Go _ _ _ _ _ _ _ (T5.setTop (mkF m 47 #[.val (.ref a), .val (.ref sc), .val (.int x1), .val (.ref b), .val (.int (own_first k + (x1 - (1 : Int32))))] [(.long u), (.ref a)]))
  refine Go.of (fun _ q => XS.lconst X5.here hx rfl (hb hby d12_47) q) ?_
  show Go _ _ _ _ _ _ _ (T5.setTop (mkF m 48 #[.val (.ref a), .val (.ref sc), .val (.int x1), .val (.ref b), .val (.int (own_first k + (x1 - (1 : Int32))))] [(.long (1 : Int64)), (.long u), (.ref a)]))
  refine Go.of (fun _ q => XS.iload X5.here hx rfl (hb hby d12_48) rfl q) ?_
  show Go _ _ _ _ _ _ _ (T5.setTop (mkF m 50 #[.val (.ref a), .val (.ref sc), .val (.int x1), .val (.ref b), .val (.int (own_first k + (x1 - (1 : Int32))))] [(.int (own_first k + (x1 - (1 : Int32)))), (.long (1 : Int64)), (.long u), (.ref a)]))
  refine Go.of (fun _ q => XS.lshl X5.here hx rfl (hb hby d12_50) rfl q) ?_
  show Go _ _ _ _ _ _ _ (T5.setTop (mkF m 51 #[.val (.ref a), .val (.ref sc), .val (.int x1), .val (.ref b), .val (.int (own_first k + (x1 - (1 : Int32))))] [(.long ((1 : Int64) <<< ((own_first k + (x1 - (1 : Int32))) &&& 0x3f).toInt64)), (.long u), (.ref a)]))
  refine Go.of (fun _ q => XS.lor X5.here hx rfl (hb hby d12_51) rfl q) ?_
  show Go _ _ _ _ _ _ _ (T5.setTop (mkF m 52 #[.val (.ref a), .val (.ref sc), .val (.int x1), .val (.ref b), .val (.int (own_first k + (x1 - (1 : Int32))))] [(.long (u ||| ((1 : Int64) <<< ((own_first k + (x1 - (1 : Int32))) &&& 0x3f).toInt64))), (.ref a)]))
  obtain ⟨T6, h6, X6, e6, W6, st6⟩ := putF X5 hx hZ hown (host := "") (Or.inl (hw _ (List.mem_of_getElem? (i := 98) rfl))) Via.refl e5 F_a_occupied E_a (Or.inl (hw _ (List.mem_of_getElem? (i := 99) rfl))) (hw _ (List.mem_of_getElem? (i := 18) rfl)) (ty := .long) (by decide) rfl rfl (g := (mkF m 52 #[.val (.ref a), .val (.ref sc), .val (.int x1), .val (.ref b), .val (.int (own_first k + (x1 - (1 : Int32))))] [(.long (u ||| ((1 : Int64) <<< ((own_first k + (x1 - (1 : Int32))) &&& 0x3f).toInt64))), (.ref a)])) rfl rfl (hb hby d12_52)
  refine Go.of st6 ?_
  have Zs := Nat.le_trans Zs (Nat.le_of_eq W6.size.symm)
  have Kp := Kp.wr W6 (Or.inl (List.mem_of_getElem? (i := 0) rfl))
  have Od := Od.wr W6 g_a
  have E_a := E_a.wr W6
  have F_a_pawns := F_a_pawns.other W6 (Or.inr (slot_ne (Or.inr (hw _ (List.mem_of_getElem? (i := 31) rfl))) (Or.inl (hw _ (List.mem_of_getElem? (i := 99) rfl))) (by decide) (t := (.array (.object "com/example/tundra_ascent/tundraascent/rules/Animal"))) (t' := .long) (by decide) (by decide)))
  have F_a_occupied := F_a_occupied.same W6
  have A_pw := A_pw.other W6 (Ne.symm ne_a_pw)
  have E_b := E_b.wr W6
  have N6 := Fr.snoc X6 N4 g_a
  show Go _ _ _ _ _ _ _ (T6.setTop (mkF m 55 #[.val (.ref a), .val (.ref sc), .val (.int x1), .val (.ref b), .val (.int (own_first k + (x1 - (1 : Int32))))] []))
  refine Go.retV X6 hx hlk hret (hb hby d12_55) (by decide) (by decide) ?_
  rw [e6]
  exact ⟨(u ||| ((1 : Int64) <<< ((own_first k + (x1 - (1 : Int32))) &&& 0x3f).toInt64)), rfl, N6, Kp, E_a, F_a_pawns, F_a_occupied, A_pw⟩
theorem pd6 : parseMethodDescriptor "(I)Z" = some ⟨[.int], some .boolean⟩ := by decide +kernel
theorem pd7 : parseMethodDescriptor "()V" = some ⟨[], none⟩ := by decide +kernel
theorem pd8 : parseMethodDescriptor "(I)Lcom/example/tundra_ascent/tundraascent/rules/Section;" = some ⟨[.int], some (.object "com/example/tundra_ascent/tundraascent/rules/Section")⟩ := by decide +kernel
theorem pd9 : parseMethodDescriptor "(I)Lcom/example/tundra_ascent/tundraascent/rules/Animal;" = some ⟨[.int], some (.object "com/example/tundra_ascent/tundraascent/rules/Animal")⟩ := by decide +kernel
theorem pd10 : parseMethodDescriptor "(Lcom/example/tundra_ascent/tundraascent/rules/Section;ILcom/example/tundra_ascent/tundraascent/rules/Animal;)V" = some ⟨[(.object "com/example/tundra_ascent/tundraascent/rules/Section"), .int, (.object "com/example/tundra_ascent/tundraascent/rules/Animal")], none⟩ := by decide +kernel
theorem pd11 : parseMethodDescriptor "(ZII)I" = some ⟨[.boolean, .int, .int], some .int⟩ := by decide +kernel
theorem pd12 : parseMethodDescriptor "(Lcom/example/tundra_ascent/tundraascent/rules/Animal;)I" = some ⟨[(.object "com/example/tundra_ascent/tundraascent/rules/Animal")], some .int⟩ := by decide +kernel
theorem ef_0 (m : MethodId) (x1 : Int32) (x2 : Int32) (x3 : Int32) (x4 : Int32) (x5 : Int32) : entryFrame m #[(.int x1), (.int x2), (.int x3), (.int x4), (.int x5)] maxLocals = mkF m 0 #[.val (.int x1), .val (.int x2), .val (.int x3), .val (.int x4), .val (.int x5), .unset, .unset, .unset, .unset, .unset, .unset, .unset, .unset, .unset, .unset, .unset, .unset, .unset, .unset, .unset, .unset, .unset, .unset, .unset, .unset] [] := by first | (simp [entryFrame, mkF, argsToLocals, Value.category, maxLocals]; done) | rfl
def Q0 (Z : State) (x1 : Int32) (x2 : Int32) (x3 : Int32) (x4 : Int32) (x5 : Int32) (p0 : Addr) (p1 : Addr) (p2 : Addr) (p3 : Addr) (p4 : Addr) (p5 : Addr) (q0 : Addr) (q1 : Addr) (q2 : Addr) (q3 : Addr) (q4 : Addr) (q5 : Addr) (q6 : Addr) (q7 : Addr) (q8 : Addr) (q9 : Addr) (q10 : Addr) (q11 : Addr) (fi : Addr) (kf : ClassId) (h0 : Heap) (n0 : Nat) (v : Option Value) (h : Heap) (L : List Loc) : Prop := v = some (.int (1 : Int32)) ∧ Fr n0 L
set_option maxRecDepth 65536 in
set_option maxHeartbeats 40000000 in
theorem rm0 (l : Launch) (Z : State) (a0 : Array Value) (hw : ∀ d ∈ tables_1, d.before a0 Z = true) (x1 : Int32) (x2 : Int32) (x3 : Int32) (x4 : Int32) (x5 : Int32) (p0 : Addr) (p1 : Addr) (p2 : Addr) (p3 : Addr) (p4 : Addr) (p5 : Addr) (q0 : Addr) (q1 : Addr) (q2 : Addr) (q3 : Addr) (q4 : Addr) (q5 : Addr) (q6 : Addr) (q7 : Addr) (q8 : Addr) (q9 : Addr) (q10 : Addr) (q11 : Addr) (fi : Addr) (kf : ClassId) (h0 : Heap) (n0 : Nat) (Zs : n0 ≤ h0.size) (Od : Old Z n0 h0) (SA_0 : Sta Z Z.heap "com/example/tundra_ascent/tundraascent/rules/Animal" "MAMMALS" "Lcom/example/tundra_ascent/tundraascent/rules/Animal;" (.ref p0)) (SA_1 : Sta Z Z.heap "com/example/tundra_ascent/tundraascent/rules/Animal" "REPTILES" "Lcom/example/tundra_ascent/tundraascent/rules/Animal;" (.ref p1)) (SA_2 : Sta Z Z.heap "com/example/tundra_ascent/tundraascent/rules/Animal" "BIRDS" "Lcom/example/tundra_ascent/tundraascent/rules/Animal;" (.ref p2)) (SA_3 : Sta Z Z.heap "com/example/tundra_ascent/tundraascent/rules/Animal" "AMPHIBIANS" "Lcom/example/tundra_ascent/tundraascent/rules/Animal;" (.ref p3)) (SA_4 : Sta Z Z.heap "com/example/tundra_ascent/tundraascent/rules/Animal" "ARACHNIDS" "Lcom/example/tundra_ascent/tundraascent/rules/Animal;" (.ref p4)) (SA_5 : Sta Z Z.heap "com/example/tundra_ascent/tundraascent/rules/Animal" "INSECTS" "Lcom/example/tundra_ascent/tundraascent/rules/Animal;" (.ref p5)) (SS_0 : Sta Z Z.heap "com/example/tundra_ascent/tundraascent/rules/Section" "INITIATIVE" "Lcom/example/tundra_ascent/tundraascent/rules/Section;" (.ref q0)) (SS_1 : Sta Z Z.heap "com/example/tundra_ascent/tundraascent/rules/Section" "ADAPTATION" "Lcom/example/tundra_ascent/tundraascent/rules/Section;" (.ref q1)) (SS_2 : Sta Z Z.heap "com/example/tundra_ascent/tundraascent/rules/Section" "REGRESSION" "Lcom/example/tundra_ascent/tundraascent/rules/Section;" (.ref q2)) (SS_3 : Sta Z Z.heap "com/example/tundra_ascent/tundraascent/rules/Section" "ABUNDANCE" "Lcom/example/tundra_ascent/tundraascent/rules/Section;" (.ref q3)) (SS_4 : Sta Z Z.heap "com/example/tundra_ascent/tundraascent/rules/Section" "WASTELAND" "Lcom/example/tundra_ascent/tundraascent/rules/Section;" (.ref q4)) (SS_5 : Sta Z Z.heap "com/example/tundra_ascent/tundraascent/rules/Section" "DEPLETION" "Lcom/example/tundra_ascent/tundraascent/rules/Section;" (.ref q5)) (SS_6 : Sta Z Z.heap "com/example/tundra_ascent/tundraascent/rules/Section" "GLACIATION" "Lcom/example/tundra_ascent/tundraascent/rules/Section;" (.ref q6)) (SS_7 : Sta Z Z.heap "com/example/tundra_ascent/tundraascent/rules/Section" "SPECIATION" "Lcom/example/tundra_ascent/tundraascent/rules/Section;" (.ref q7)) (SS_8 : Sta Z Z.heap "com/example/tundra_ascent/tundraascent/rules/Section" "WANDERLUST" "Lcom/example/tundra_ascent/tundraascent/rules/Section;" (.ref q8)) (SS_9 : Sta Z Z.heap "com/example/tundra_ascent/tundraascent/rules/Section" "MIGRATION" "Lcom/example/tundra_ascent/tundraascent/rules/Section;" (.ref q9)) (SS_10 : Sta Z Z.heap "com/example/tundra_ascent/tundraascent/rules/Section" "COMPETITION" "Lcom/example/tundra_ascent/tundraascent/rules/Section;" (.ref q10)) (SS_11 : Sta Z Z.heap "com/example/tundra_ascent/tundraascent/rules/Section" "DOMINATION" "Lcom/example/tundra_ascent/tundraascent/rules/Section;" (.ref q11)) (Ssp : Sta Z Z.heap "com/example/tundra_ascent/tundraascent/rules/Display" "SPACES" "I" (.int (41 : Int32))) (Sfi : Sta Z Z.heap "com/example/tundra_ascent/tundraascent/rules/Display" "FIRST" "[I" (.ref fi)) (Afi : AF Z Z.heap fi kf .int 12 (fun i => .int (own_first i))) (HS : ∀ k, k < 12 → Exa Z Z.heap (own_sec k q0 q1 q2 q3 q4 q5 q6 q7 q8 q9 q10 q11) "com/example/tundra_ascent/tundraascent/rules/Section" ∧ Fld Z Z.heap (own_sec k q0 q1 q2 q3 q4 q5 q6 q7 q8 q9 q10 q11) "java/lang/Enum" "ordinal" "I" (.int (Int32.ofNat k)) ∧ Fld Z Z.heap (own_sec k q0 q1 q2 q3 q4 q5 q6 q7 q8 q9 q10 q11) "com/example/tundra_ascent/tundraascent/rules/Section" "eyeballSpaces" "I" (.int (own_szN k))) (HA : ∀ k, k < 6 → Exa Z Z.heap (own_an k p0 p1 p2 p3 p4 p5) "com/example/tundra_ascent/tundraascent/rules/Animal") (HD : ∀ j k, j < 6 → k < 6 → (own_an j p0 p1 p2 p3 p4 p5 = own_an k p0 p1 p2 p3 p4 p5 ↔ Int32.ofNat j = Int32.ofNat k)) :
    Con l Z x code maxLocals ret room_1 #[(.int x1), (.int x2), (.int x3), (.int x4), (.int x5)] h0 (Q0 Z x1 x2 x3 x4 x5 p0 p1 p2 p3 p4 p5 q0 q1 q2 q3 q4 q5 q6 q7 q8 q9 q10 q11 fi kf h0 n0) := by
  refine Con.intro (plainFor_of_name pn0) (fun m => ef_0 m x1 x2 x3 x4 x5) ?_
  intro p e s m below meth c s₁ hx hby hml0 hZ hown hnm hret hlk X0 e0
  have hml : c.maxLocals = 25 := hml0
  have N0 := Fr.nil n0
  have Kp : Keep h0 h0 [] := Keep.refl h0 _
  show Go _ _ _ _ _ _ _ (s₁.setTop (mkF m 0 #[.val (.int x1), .val (.int x2), .val (.int x3), .val (.int x4), .val (.int x5), .unset, .unset, .unset, .unset, .unset, .unset, .unset, .unset, .unset, .unset, .unset, .unset, .unset, .unset, .unset, .unset, .unset, .unset, .unset, .unset] []))
  refine Go.of (fun _ q => XS.iloadN X0.here hx rfl (hb hby at_0) rfl q) ?_
  show Go _ _ _ _ _ _ _ (s₁.setTop (mkF m 1 #[.val (.int x1), .val (.int x2), .val (.int x3), .val (.int x4), .val (.int x5), .unset, .unset, .unset, .unset, .unset, .unset, .unset, .unset, .unset, .unset, .unset, .unset, .unset, .unset, .unset, .unset, .unset, .unset, .unset, .unset] [(.int x1)]))
  refine Go.static X0 hx hZ (y := (⟨"com/example/tundra_ascent/tundraascent/rules/DisplayPawnsOfPinLaw", "sec", "(I)I"⟩ : MethodName)) (argsL := [(.int x1)]) hown (hw _ (List.mem_of_getElem? (i := 0) rfl)) (hw _ (List.mem_of_getElem? (i := 1) rfl)) (hw _ (List.mem_of_getElem? (i := 2) rfl)) (hw _ (List.mem_of_getElem? (i := 3) rfl)) (by decide) 0 e0 (rm1 l Z a0 hw x1 h0 n0 Zs ) (by decide) (by decide) (by decide) (by decide) (g := (mkF m 1 #[.val (.int x1), .val (.int x2), .val (.int x3), .val (.int x4), .val (.int x5), .unset, .unset, .unset, .unset, .unset, .unset, .unset, .unset, .unset, .unset, .unset, .unset, .unset, .unset, .unset, .unset, .unset, .unset, .unset, .unset] [(.int x1)])) rfl (by rw [hml]; rfl) (rest := []) (lenOf pd0 rfl) rfl (by show 2 * 0 + _ ≤ _; exact Nat.le_of_eq rfl) (hb hby at_1) ?_
  intro T1 v1 L1 X1 q1
  obtain ⟨rfl, Nq1, e1⟩ := q1
  have N1 := Fr.app N0 Nq1
  show Go _ _ _ _ _ _ _ (T1.setTop (mkF m 4 #[.val (.int x1), .val (.int x2), .val (.int x3), .val (.int x4), .val (.int x5), .unset, .unset, .unset, .unset, .unset, .unset, .unset, .unset, .unset, .unset, .unset, .unset, .unset, .unset, .unset, .unset, .unset, .unset, .unset, .unset] [(.int ((x1 &&& (255 : Int32)) % (12 : Int32)))]))
  refine Go.of (fun _ q => XS.istore X1.here hx rfl (hb hby at_4) rfl (l' := #[.val (.int x1), .val (.int x2), .val (.int x3), .val (.int x4), .val (.int x5), .val (.int ((x1 &&& (255 : Int32)) % (12 : Int32))), .unset, .unset, .unset, .unset, .unset, .unset, .unset, .unset, .unset, .unset, .unset, .unset, .unset, .unset, .unset, .unset, .unset, .unset, .unset]) rfl q) ?_
  obtain ⟨k1, hk1, ek1⟩ := own_mod (x1 &&& (255 : Int32)) (12 : Int32) 12 (by decide) (by decide) (own_255 x1)
  rw [ek1]
  show Go _ _ _ _ _ _ _ (T1.setTop (mkF m 6 #[.val (.int x1), .val (.int x2), .val (.int x3), .val (.int x4), .val (.int x5), .val (.int (Int32.ofNat k1)), .unset, .unset, .unset, .unset, .unset, .unset, .unset, .unset, .unset, .unset, .unset, .unset, .unset, .unset, .unset, .unset, .unset, .unset, .unset] []))
  refine Go.of (fun _ q => XS.iloadN X1.here hx rfl (hb hby at_6) rfl q) ?_
  show Go _ _ _ _ _ _ _ (T1.setTop (mkF m 7 #[.val (.int x1), .val (.int x2), .val (.int x3), .val (.int x4), .val (.int x5), .val (.int (Int32.ofNat k1)), .unset, .unset, .unset, .unset, .unset, .unset, .unset, .unset, .unset, .unset, .unset, .unset, .unset, .unset, .unset, .unset, .unset, .unset, .unset] [(.int x2)]))
  refine Go.static X1 hx hZ (y := (⟨"com/example/tundra_ascent/tundraascent/rules/DisplayPawnsOfPinLaw", "sec", "(I)I"⟩ : MethodName)) (argsL := [(.int x2)]) hown (hw _ (List.mem_of_getElem? (i := 0) rfl)) (hw _ (List.mem_of_getElem? (i := 1) rfl)) (hw _ (List.mem_of_getElem? (i := 2) rfl)) (hw _ (List.mem_of_getElem? (i := 3) rfl)) (by decide) 0 e1 (rm1 l Z a0 hw x2 h0 n0 Zs ) (by decide) (by decide) (by decide) (by decide) (g := (mkF m 7 #[.val (.int x1), .val (.int x2), .val (.int x3), .val (.int x4), .val (.int x5), .val (.int (Int32.ofNat k1)), .unset, .unset, .unset, .unset, .unset, .unset, .unset, .unset, .unset, .unset, .unset, .unset, .unset, .unset, .unset, .unset, .unset, .unset, .unset] [(.int x2)])) rfl (by rw [hml]; rfl) (rest := []) (lenOf pd0 rfl) rfl (by show 2 * 0 + _ ≤ _; exact Nat.le_of_eq rfl) (hb hby at_7) ?_
  intro T2 v2 L2 X2 q2
  obtain ⟨rfl, Nq2, e2⟩ := q2
  have N2 := Fr.app N1 Nq2
  show Go _ _ _ _ _ _ _ (T2.setTop (mkF m 10 #[.val (.int x1), .val (.int x2), .val (.int x3), .val (.int x4), .val (.int x5), .val (.int (Int32.ofNat k1)), .unset, .unset, .unset, .unset, .unset, .unset, .unset, .unset, .unset, .unset, .unset, .unset, .unset, .unset, .unset, .unset, .unset, .unset, .unset] [(.int ((x2 &&& (255 : Int32)) % (12 : Int32)))]))
  refine Go.of (fun _ q => XS.istore X2.here hx rfl (hb hby at_10) rfl (l' := #[.val (.int x1), .val (.int x2), .val (.int x3), .val (.int x4), .val (.int x5), .val (.int (Int32.ofNat k1)), .val (.int ((x2 &&& (255 : Int32)) % (12 : Int32))), .unset, .unset, .unset, .unset, .unset, .unset, .unset, .unset, .unset, .unset, .unset, .unset, .unset, .unset, .unset, .unset, .unset, .unset]) rfl q) ?_
  obtain ⟨k2, hk2, ek2⟩ := own_mod (x2 &&& (255 : Int32)) (12 : Int32) 12 (by decide) (by decide) (own_255 x2)
  rw [ek2]
  show Go _ _ _ _ _ _ _ (T2.setTop (mkF m 12 #[.val (.int x1), .val (.int x2), .val (.int x3), .val (.int x4), .val (.int x5), .val (.int (Int32.ofNat k1)), .val (.int (Int32.ofNat k2)), .unset, .unset, .unset, .unset, .unset, .unset, .unset, .unset, .unset, .unset, .unset, .unset, .unset, .unset, .unset, .unset, .unset, .unset] []))
  refine Go.of (fun _ q => XS.iloadN X2.here hx rfl (hb hby at_12) rfl q) ?_
  show Go _ _ _ _ _ _ _ (T2.setTop (mkF m 13 #[.val (.int x1), .val (.int x2), .val (.int x3), .val (.int x4), .val (.int x5), .val (.int (Int32.ofNat k1)), .val (.int (Int32.ofNat k2)), .unset, .unset, .unset, .unset, .unset, .unset, .unset, .unset, .unset, .unset, .unset, .unset, .unset, .unset, .unset, .unset, .unset, .unset] [(.int x3)]))
  refine Go.static X2 hx hZ (y := (⟨"com/example/tundra_ascent/tundraascent/rules/DisplayPawnsOfPinLaw", "sec", "(I)I"⟩ : MethodName)) (argsL := [(.int x3)]) hown (hw _ (List.mem_of_getElem? (i := 0) rfl)) (hw _ (List.mem_of_getElem? (i := 1) rfl)) (hw _ (List.mem_of_getElem? (i := 2) rfl)) (hw _ (List.mem_of_getElem? (i := 3) rfl)) (by decide) 0 e2 (rm1 l Z a0 hw x3 h0 n0 Zs ) (by decide) (by decide) (by decide) (by decide) (g := (mkF m 13 #[.val (.int x1), .val (.int x2), .val (.int x3), .val (.int x4), .val (.int x5), .val (.int (Int32.ofNat k1)), .val (.int (Int32.ofNat k2)), .unset, .unset, .unset, .unset, .unset, .unset, .unset, .unset, .unset, .unset, .unset, .unset, .unset, .unset, .unset, .unset, .unset, .unset] [(.int x3)])) rfl (by rw [hml]; rfl) (rest := []) (lenOf pd0 rfl) rfl (by show 2 * 0 + _ ≤ _; exact Nat.le_of_eq rfl) (hb hby at_13) ?_
  intro T3 v3 L3 X3 q3
  obtain ⟨rfl, Nq3, e3⟩ := q3
  have N3 := Fr.app N2 Nq3
  show Go _ _ _ _ _ _ _ (T3.setTop (mkF m 16 #[.val (.int x1), .val (.int x2), .val (.int x3), .val (.int x4), .val (.int x5), .val (.int (Int32.ofNat k1)), .val (.int (Int32.ofNat k2)), .unset, .unset, .unset, .unset, .unset, .unset, .unset, .unset, .unset, .unset, .unset, .unset, .unset, .unset, .unset, .unset, .unset, .unset] [(.int ((x3 &&& (255 : Int32)) % (12 : Int32)))]))
  refine Go.of (fun _ q => XS.istore X3.here hx rfl (hb hby at_16) rfl (l' := #[.val (.int x1), .val (.int x2), .val (.int x3), .val (.int x4), .val (.int x5), .val (.int (Int32.ofNat k1)), .val (.int (Int32.ofNat k2)), .val (.int ((x3 &&& (255 : Int32)) % (12 : Int32))), .unset, .unset, .unset, .unset, .unset, .unset, .unset, .unset, .unset, .unset, .unset, .unset, .unset, .unset, .unset, .unset, .unset]) rfl q) ?_
  obtain ⟨k3, hk3, ek3⟩ := own_mod (x3 &&& (255 : Int32)) (12 : Int32) 12 (by decide) (by decide) (own_255 x3)
  rw [ek3]
  show Go _ _ _ _ _ _ _ (T3.setTop (mkF m 18 #[.val (.int x1), .val (.int x2), .val (.int x3), .val (.int x4), .val (.int x5), .val (.int (Int32.ofNat k1)), .val (.int (Int32.ofNat k2)), .val (.int (Int32.ofNat k3)), .unset, .unset, .unset, .unset, .unset, .unset, .unset, .unset, .unset, .unset, .unset, .unset, .unset, .unset, .unset, .unset, .unset] []))
  refine Go.of (fun _ q => XS.iloadN X3.here hx rfl (hb hby at_18) rfl q) ?_
  show Go _ _ _ _ _ _ _ (T3.setTop (mkF m 19 #[.val (.int x1), .val (.int x2), .val (.int x3), .val (.int x4), .val (.int x5), .val (.int (Int32.ofNat k1)), .val (.int (Int32.ofNat k2)), .val (.int (Int32.ofNat k3)), .unset, .unset, .unset, .unset, .unset, .unset, .unset, .unset, .unset, .unset, .unset, .unset, .unset, .unset, .unset, .unset, .unset] [(.int x4)]))
  refine Go.static X3 hx hZ (y := (⟨"com/example/tundra_ascent/tundraascent/rules/DisplayPawnsOfPinLaw", "sec", "(I)I"⟩ : MethodName)) (argsL := [(.int x4)]) hown (hw _ (List.mem_of_getElem? (i := 0) rfl)) (hw _ (List.mem_of_getElem? (i := 1) rfl)) (hw _ (List.mem_of_getElem? (i := 2) rfl)) (hw _ (List.mem_of_getElem? (i := 3) rfl)) (by decide) 0 e3 (rm1 l Z a0 hw x4 h0 n0 Zs ) (by decide) (by decide) (by decide) (by decide) (g := (mkF m 19 #[.val (.int x1), .val (.int x2), .val (.int x3), .val (.int x4), .val (.int x5), .val (.int (Int32.ofNat k1)), .val (.int (Int32.ofNat k2)), .val (.int (Int32.ofNat k3)), .unset, .unset, .unset, .unset, .unset, .unset, .unset, .unset, .unset, .unset, .unset, .unset, .unset, .unset, .unset, .unset, .unset] [(.int x4)])) rfl (by rw [hml]; rfl) (rest := []) (lenOf pd0 rfl) rfl (by show 2 * 0 + _ ≤ _; exact Nat.le_of_eq rfl) (hb hby at_19) ?_
  intro T4 v4 L4 X4 q4
  obtain ⟨rfl, Nq4, e4⟩ := q4
  have N4 := Fr.app N3 Nq4
  show Go _ _ _ _ _ _ _ (T4.setTop (mkF m 22 #[.val (.int x1), .val (.int x2), .val (.int x3), .val (.int x4), .val (.int x5), .val (.int (Int32.ofNat k1)), .val (.int (Int32.ofNat k2)), .val (.int (Int32.ofNat k3)), .unset, .unset, .unset, .unset, .unset, .unset, .unset, .unset, .unset, .unset, .unset, .unset, .unset, .unset, .unset, .unset, .unset] [(.int ((x4 &&& (255 : Int32)) % (12 : Int32)))]))
  refine Go.of (fun _ q => XS.istore X4.here hx rfl (hb hby at_22) rfl (l' := #[.val (.int x1), .val (.int x2), .val (.int x3), .val (.int x4), .val (.int x5), .val (.int (Int32.ofNat k1)), .val (.int (Int32.ofNat k2)), .val (.int (Int32.ofNat k3)), .val (.int ((x4 &&& (255 : Int32)) % (12 : Int32))), .unset, .unset, .unset, .unset, .unset, .unset, .unset, .unset, .unset, .unset, .unset, .unset, .unset, .unset, .unset, .unset]) rfl q) ?_
  obtain ⟨k4, hk4, ek4⟩ := own_mod (x4 &&& (255 : Int32)) (12 : Int32) 12 (by decide) (by decide) (own_255 x4)
  rw [ek4]
  show Go _ _ _ _ _ _ _ (T4.setTop (mkF m 24 #[.val (.int x1), .val (.int x2), .val (.int x3), .val (.int x4), .val (.int x5), .val (.int (Int32.ofNat k1)), .val (.int (Int32.ofNat k2)), .val (.int (Int32.ofNat k3)), .val (.int (Int32.ofNat k4)), .unset, .unset, .unset, .unset, .unset, .unset, .unset, .unset, .unset, .unset, .unset, .unset, .unset, .unset, .unset, .unset] []))
  refine Go.of (fun _ q => XS.iloadN X4.here hx rfl (hb hby at_24) rfl q) ?_
  show Go _ _ _ _ _ _ _ (T4.setTop (mkF m 25 #[.val (.int x1), .val (.int x2), .val (.int x3), .val (.int x4), .val (.int x5), .val (.int (Int32.ofNat k1)), .val (.int (Int32.ofNat k2)), .val (.int (Int32.ofNat k3)), .val (.int (Int32.ofNat k4)), .unset, .unset, .unset, .unset, .unset, .unset, .unset, .unset, .unset, .unset, .unset, .unset, .unset, .unset, .unset, .unset] [(.int x1)]))
  refine Go.of (fun _ q => XS.iload X4.here hx rfl (hb hby at_25) rfl q) ?_
  show Go _ _ _ _ _ _ _ (T4.setTop (mkF m 27 #[.val (.int x1), .val (.int x2), .val (.int x3), .val (.int x4), .val (.int x5), .val (.int (Int32.ofNat k1)), .val (.int (Int32.ofNat k2)), .val (.int (Int32.ofNat k3)), .val (.int (Int32.ofNat k4)), .unset, .unset, .unset, .unset, .unset, .unset, .unset, .unset, .unset, .unset, .unset, .unset, .unset, .unset, .unset, .unset] [(.int (Int32.ofNat k1)), (.int x1)]))
  refine Go.static X4 hx hZ (y := (⟨"com/example/tundra_ascent/tundraascent/rules/DisplayPawnsOfPinLaw", "space", "(II)I"⟩ : MethodName)) (argsL := [(.int x1), (.int (Int32.ofNat k1))]) hown (hw _ (List.mem_of_getElem? (i := 4) rfl)) (hw _ (List.mem_of_getElem? (i := 5) rfl)) (hw _ (List.mem_of_getElem? (i := 2) rfl)) (hw _ (List.mem_of_getElem? (i := 6) rfl)) (by decide) 0 e4 (rm2 l Z a0 hw x1 (Int32.ofNat k1) k1 h0 n0 Zs hk1 rfl) (by decide) (by decide) (by decide) (by decide) (g := (mkF m 27 #[.val (.int x1), .val (.int x2), .val (.int x3), .val (.int x4), .val (.int x5), .val (.int (Int32.ofNat k1)), .val (.int (Int32.ofNat k2)), .val (.int (Int32.ofNat k3)), .val (.int (Int32.ofNat k4)), .unset, .unset, .unset, .unset, .unset, .unset, .unset, .unset, .unset, .unset, .unset, .unset, .unset, .unset, .unset, .unset] [(.int (Int32.ofNat k1)), (.int x1)])) rfl (by rw [hml]; rfl) (rest := []) (lenOf pd3 rfl) rfl (by show 2 * 0 + _ ≤ _; exact Nat.le_of_eq rfl) (hb hby at_27) ?_
  intro T5 v5 L5 X5 q5
  obtain ⟨rfl, Nq5, K5⟩ := q5
  have N5 := Fr.app N4 Nq5
  have Zs := Nat.le_trans Zs K5.1
  have Kp := Kp.trans K5 all0
  have Od := Od.keep K5 all0
  show Go _ _ _ _ _ _ _ (T5.setTop (mkF m 30 #[.val (.int x1), .val (.int x2), .val (.int x3), .val (.int x4), .val (.int x5), .val (.int (Int32.ofNat k1)), .val (.int (Int32.ofNat k2)), .val (.int (Int32.ofNat k3)), .val (.int (Int32.ofNat k4)), .unset, .unset, .unset, .unset, .unset, .unset, .unset, .unset, .unset, .unset, .unset, .unset, .unset, .unset, .unset, .unset] [(.int ((1 : Int32) + ((((x1.toUInt32 >>> ((8 : Int32) &&& 31).toUInt32).toInt32) &&& (255 : Int32)) % (own_szN k1))))]))
  refine Go.of (fun _ q => XS.istore X5.here hx rfl (hb hby at_30) rfl (l' := #[.val (.int x1), .val (.int x2), .val (.int x3), .val (.int x4), .val (.int x5), .val (.int (Int32.ofNat k1)), .val (.int (Int32.ofNat k2)), .val (.int (Int32.ofNat k3)), .val (.int (Int32.ofNat k4)), .val (.int ((1 : Int32) + ((((x1.toUInt32 >>> ((8 : Int32) &&& 31).toUInt32).toInt32) &&& (255 : Int32)) % (own_szN k1)))), .unset, .unset, .unset, .unset, .unset, .unset, .unset, .unset, .unset, .unset, .unset, .unset, .unset, .unset, .unset]) rfl q) ?_
  obtain ⟨sp1, hsp1⟩ : ∃ z, z = ((1 : Int32) + ((((x1.toUInt32 >>> ((8 : Int32) &&& 31).toUInt32).toInt32) &&& (255 : Int32)) % (own_szN k1))) := ⟨_, rfl⟩
  rw [← hsp1]
  show Go _ _ _ _ _ _ _ (T5.setTop (mkF m 32 #[.val (.int x1), .val (.int x2), .val (.int x3), .val (.int x4), .val (.int x5), .val (.int (Int32.ofNat k1)), .val (.int (Int32.ofNat k2)), .val (.int (Int32.ofNat k3)), .val (.int (Int32.ofNat k4)), .val (.int sp1), .unset, .unset, .unset, .unset, .unset, .unset, .unset, .unset, .unset, .unset, .unset, .unset, .unset, .unset, .unset] []))
  refine Go.of (fun _ q => XS.iloadN X5.here hx rfl (hb hby at_32) rfl q) ?_
  show Go _ _ _ _ _ _ _ (T5.setTop (mkF m 33 #[.val (.int x1), .val (.int x2), .val (.int x3), .val (.int x4), .val (.int x5), .val (.int (Int32.ofNat k1)), .val (.int (Int32.ofNat k2)), .val (.int (Int32.ofNat k3)), .val (.int (Int32.ofNat k4)), .val (.int sp1), .unset, .unset, .unset, .unset, .unset, .unset, .unset, .unset, .unset, .unset, .unset, .unset, .unset, .unset, .unset] [(.int x2)]))
  refine Go.of (fun _ q => XS.iload X5.here hx rfl (hb hby at_33) rfl q) ?_
  show Go _ _ _ _ _ _ _ (T5.setTop (mkF m 35 #[.val (.int x1), .val (.int x2), .val (.int x3), .val (.int x4), .val (.int x5), .val (.int (Int32.ofNat k1)), .val (.int (Int32.ofNat k2)), .val (.int (Int32.ofNat k3)), .val (.int (Int32.ofNat k4)), .val (.int sp1), .unset, .unset, .unset, .unset, .unset, .unset, .unset, .unset, .unset, .unset, .unset, .unset, .unset, .unset, .unset] [(.int (Int32.ofNat k2)), (.int x2)]))
  refine Go.static X5 hx hZ (y := (⟨"com/example/tundra_ascent/tundraascent/rules/DisplayPawnsOfPinLaw", "space", "(II)I"⟩ : MethodName)) (argsL := [(.int x2), (.int (Int32.ofNat k2))]) hown (hw _ (List.mem_of_getElem? (i := 4) rfl)) (hw _ (List.mem_of_getElem? (i := 5) rfl)) (hw _ (List.mem_of_getElem? (i := 2) rfl)) (hw _ (List.mem_of_getElem? (i := 6) rfl)) (by decide) 0 rfl (rm2 l Z a0 hw x2 (Int32.ofNat k2) k2 T5.heap n0 Zs hk2 rfl) (by decide) (by decide) (by decide) (by decide) (g := (mkF m 35 #[.val (.int x1), .val (.int x2), .val (.int x3), .val (.int x4), .val (.int x5), .val (.int (Int32.ofNat k1)), .val (.int (Int32.ofNat k2)), .val (.int (Int32.ofNat k3)), .val (.int (Int32.ofNat k4)), .val (.int sp1), .unset, .unset, .unset, .unset, .unset, .unset, .unset, .unset, .unset, .unset, .unset, .unset, .unset, .unset, .unset] [(.int (Int32.ofNat k2)), (.int x2)])) rfl (by rw [hml]; rfl) (rest := []) (lenOf pd3 rfl) rfl (by show 2 * 0 + _ ≤ _; exact Nat.le_of_eq rfl) (hb hby at_35) ?_
  intro T6 v6 L6 X6 q6
  obtain ⟨rfl, Nq6, K6⟩ := q6
  have N6 := Fr.app N5 Nq6
  have Zs := Nat.le_trans Zs K6.1
  have Kp := Kp.trans K6 all0
  have Od := Od.keep K6 all0
  show Go _ _ _ _ _ _ _ (T6.setTop (mkF m 38 #[.val (.int x1), .val (.int x2), .val (.int x3), .val (.int x4), .val (.int x5), .val (.int (Int32.ofNat k1)), .val (.int (Int32.ofNat k2)), .val (.int (Int32.ofNat k3)), .val (.int (Int32.ofNat k4)), .val (.int sp1), .unset, .unset, .unset, .unset, .unset, .unset, .unset, .unset, .unset, .unset, .unset, .unset, .unset, .unset, .unset] [(.int ((1 : Int32) + ((((x2.toUInt32 >>> ((8 : Int32) &&& 31).toUInt32).toInt32) &&& (255 : Int32)) % (own_szN k2))))]))
  refine Go.of (fun _ q => XS.istore X6.here hx rfl (hb hby at_38) rfl (l' := #[.val (.int x1), .val (.int x2), .val (.int x3), .val (.int x4), .val (.int x5), .val (.int (Int32.ofNat k1)), .val (.int (Int32.ofNat k2)), .val (.int (Int32.ofNat k3)), .val (.int (Int32.ofNat k4)), .val (.int sp1), .val (.int ((1 : Int32) + ((((x2.toUInt32 >>> ((8 : Int32) &&& 31).toUInt32).toInt32) &&& (255 : Int32)) % (own_szN k2)))), .unset, .unset, .unset, .unset, .unset, .unset, .unset, .unset, .unset, .unset, .unset, .unset, .unset, .unset]) rfl q) ?_
  obtain ⟨sp2, hsp2⟩ : ∃ z, z = ((1 : Int32) + ((((x2.toUInt32 >>> ((8 : Int32) &&& 31).toUInt32).toInt32) &&& (255 : Int32)) % (own_szN k2))) := ⟨_, rfl⟩
  rw [← hsp2]
  show Go _ _ _ _ _ _ _ (T6.setTop (mkF m 40 #[.val (.int x1), .val (.int x2), .val (.int x3), .val (.int x4), .val (.int x5), .val (.int (Int32.ofNat k1)), .val (.int (Int32.ofNat k2)), .val (.int (Int32.ofNat k3)), .val (.int (Int32.ofNat k4)), .val (.int sp1), .val (.int sp2), .unset, .unset, .unset, .unset, .unset, .unset, .unset, .unset, .unset, .unset, .unset, .unset, .unset, .unset] []))
  refine Go.of (fun _ q => XS.iloadN X6.here hx rfl (hb hby at_40) rfl q) ?_
  show Go _ _ _ _ _ _ _ (T6.setTop (mkF m 41 #[.val (.int x1), .val (.int x2), .val (.int x3), .val (.int x4), .val (.int x5), .val (.int (Int32.ofNat k1)), .val (.int (Int32.ofNat k2)), .val (.int (Int32.ofNat k3)), .val (.int (Int32.ofNat k4)), .val (.int sp1), .val (.int sp2), .unset, .unset, .unset, .unset, .unset, .unset, .unset, .unset, .unset, .unset, .unset, .unset, .unset, .unset] [(.int x3)]))
  refine Go.of (fun _ q => XS.iload X6.here hx rfl (hb hby at_41) rfl q) ?_
  show Go _ _ _ _ _ _ _ (T6.setTop (mkF m 43 #[.val (.int x1), .val (.int x2), .val (.int x3), .val (.int x4), .val (.int x5), .val (.int (Int32.ofNat k1)), .val (.int (Int32.ofNat k2)), .val (.int (Int32.ofNat k3)), .val (.int (Int32.ofNat k4)), .val (.int sp1), .val (.int sp2), .unset, .unset, .unset, .unset, .unset, .unset, .unset, .unset, .unset, .unset, .unset, .unset, .unset, .unset] [(.int (Int32.ofNat k3)), (.int x3)]))
  refine Go.static X6 hx hZ (y := (⟨"com/example/tundra_ascent/tundraascent/rules/DisplayPawnsOfPinLaw", "space", "(II)I"⟩ : MethodName)) (argsL := [(.int x3), (.int (Int32.ofNat k3))]) hown (hw _ (List.mem_of_getElem? (i := 4) rfl)) (hw _ (List.mem_of_getElem? (i := 5) rfl)) (hw _ (List.mem_of_getElem? (i := 2) rfl)) (hw _ (List.mem_of_getElem? (i := 6) rfl)) (by decide) 0 rfl (rm2 l Z a0 hw x3 (Int32.ofNat k3) k3 T6.heap n0 Zs hk3 rfl) (by decide) (by decide) (by decide) (by decide) (g := (mkF m 43 #[.val (.int x1), .val (.int x2), .val (.int x3), .val (.int x4), .val (.int x5), .val (.int (Int32.ofNat k1)), .val (.int (Int32.ofNat k2)), .val (.int (Int32.ofNat k3)), .val (.int (Int32.ofNat k4)), .val (.int sp1), .val (.int sp2), .unset, .unset, .unset, .unset, .unset, .unset, .unset, .unset, .unset, .unset, .unset, .unset, .unset, .unset] [(.int (Int32.ofNat k3)), (.int x3)])) rfl (by rw [hml]; rfl) (rest := []) (lenOf pd3 rfl) rfl (by show 2 * 0 + _ ≤ _; exact Nat.le_of_eq rfl) (hb hby at_43) ?_
  intro T7 v7 L7 X7 q7
  obtain ⟨rfl, Nq7, K7⟩ := q7
  have N7 := Fr.app N6 Nq7
  have Zs := Nat.le_trans Zs K7.1
  have Kp := Kp.trans K7 all0
  have Od := Od.keep K7 all0
  show Go _ _ _ _ _ _ _ (T7.setTop (mkF m 46 #[.val (.int x1), .val (.int x2), .val (.int x3), .val (.int x4), .val (.int x5), .val (.int (Int32.ofNat k1)), .val (.int (Int32.ofNat k2)), .val (.int (Int32.ofNat k3)), .val (.int (Int32.ofNat k4)), .val (.int sp1), .val (.int sp2), .unset, .unset, .unset, .unset, .unset, .unset, .unset, .unset, .unset, .unset, .unset, .unset, .unset, .unset] [(.int ((1 : Int32) + ((((x3.toUInt32 >>> ((8 : Int32) &&& 31).toUInt32).toInt32) &&& (255 : Int32)) % (own_szN k3))))]))
  refine Go.of (fun _ q => XS.istore X7.here hx rfl (hb hby at_46) rfl (l' := #[.val (.int x1), .val (.int x2), .val (.int x3), .val (.int x4), .val (.int x5), .val (.int (Int32.ofNat k1)), .val (.int (Int32.ofNat k2)), .val (.int (Int32.ofNat k3)), .val (.int (Int32.ofNat k4)), .val (.int sp1), .val (.int sp2), .val (.int ((1 : Int32) + ((((x3.toUInt32 >>> ((8 : Int32) &&& 31).toUInt32).toInt32) &&& (255 : Int32)) % (own_szN k3)))), .unset, .unset, .unset, .unset, .unset, .unset, .unset, .unset, .unset, .unset, .unset, .unset, .unset]) rfl q) ?_
  obtain ⟨sp3, hsp3⟩ : ∃ z, z = ((1 : Int32) + ((((x3.toUInt32 >>> ((8 : Int32) &&& 31).toUInt32).toInt32) &&& (255 : Int32)) % (own_szN k3))) := ⟨_, rfl⟩
  rw [← hsp3]
  show Go _ _ _ _ _ _ _ (T7.setTop (mkF m 48 #[.val (.int x1), .val (.int x2), .val (.int x3), .val (.int x4), .val (.int x5), .val (.int (Int32.ofNat k1)), .val (.int (Int32.ofNat k2)), .val (.int (Int32.ofNat k3)), .val (.int (Int32.ofNat k4)), .val (.int sp1), .val (.int sp2), .val (.int sp3), .unset, .unset, .unset, .unset, .unset, .unset, .unset, .unset, .unset, .unset, .unset, .unset, .unset] []))
  refine Go.of (fun _ q => XS.iloadN X7.here hx rfl (hb hby at_48) rfl q) ?_
  show Go _ _ _ _ _ _ _ (T7.setTop (mkF m 49 #[.val (.int x1), .val (.int x2), .val (.int x3), .val (.int x4), .val (.int x5), .val (.int (Int32.ofNat k1)), .val (.int (Int32.ofNat k2)), .val (.int (Int32.ofNat k3)), .val (.int (Int32.ofNat k4)), .val (.int sp1), .val (.int sp2), .val (.int sp3), .unset, .unset, .unset, .unset, .unset, .unset, .unset, .unset, .unset, .unset, .unset, .unset, .unset] [(.int x4)]))
  refine Go.of (fun _ q => XS.iload X7.here hx rfl (hb hby at_49) rfl q) ?_
  show Go _ _ _ _ _ _ _ (T7.setTop (mkF m 51 #[.val (.int x1), .val (.int x2), .val (.int x3), .val (.int x4), .val (.int x5), .val (.int (Int32.ofNat k1)), .val (.int (Int32.ofNat k2)), .val (.int (Int32.ofNat k3)), .val (.int (Int32.ofNat k4)), .val (.int sp1), .val (.int sp2), .val (.int sp3), .unset, .unset, .unset, .unset, .unset, .unset, .unset, .unset, .unset, .unset, .unset, .unset, .unset] [(.int (Int32.ofNat k4)), (.int x4)]))
  refine Go.static X7 hx hZ (y := (⟨"com/example/tundra_ascent/tundraascent/rules/DisplayPawnsOfPinLaw", "space", "(II)I"⟩ : MethodName)) (argsL := [(.int x4), (.int (Int32.ofNat k4))]) hown (hw _ (List.mem_of_getElem? (i := 4) rfl)) (hw _ (List.mem_of_getElem? (i := 5) rfl)) (hw _ (List.mem_of_getElem? (i := 2) rfl)) (hw _ (List.mem_of_getElem? (i := 6) rfl)) (by decide) 0 rfl (rm2 l Z a0 hw x4 (Int32.ofNat k4) k4 T7.heap n0 Zs hk4 rfl) (by decide) (by decide) (by decide) (by decide) (g := (mkF m 51 #[.val (.int x1), .val (.int x2), .val (.int x3), .val (.int x4), .val (.int x5), .val (.int (Int32.ofNat k1)), .val (.int (Int32.ofNat k2)), .val (.int (Int32.ofNat k3)), .val (.int (Int32.ofNat k4)), .val (.int sp1), .val (.int sp2), .val (.int sp3), .unset, .unset, .unset, .unset, .unset, .unset, .unset, .unset, .unset, .unset, .unset, .unset, .unset] [(.int (Int32.ofNat k4)), (.int x4)])) rfl (by rw [hml]; rfl) (rest := []) (lenOf pd3 rfl) rfl (by show 2 * 0 + _ ≤ _; exact Nat.le_of_eq rfl) (hb hby at_51) ?_
  intro T8 v8 L8 X8 q8
  obtain ⟨rfl, Nq8, K8⟩ := q8
  have N8 := Fr.app N7 Nq8
  have Zs := Nat.le_trans Zs K8.1
  have Kp := Kp.trans K8 all0
  have Od := Od.keep K8 all0
  show Go _ _ _ _ _ _ _ (T8.setTop (mkF m 54 #[.val (.int x1), .val (.int x2), .val (.int x3), .val (.int x4), .val (.int x5), .val (.int (Int32.ofNat k1)), .val (.int (Int32.ofNat k2)), .val (.int (Int32.ofNat k3)), .val (.int (Int32.ofNat k4)), .val (.int sp1), .val (.int sp2), .val (.int sp3), .unset, .unset, .unset, .unset, .unset, .unset, .unset, .unset, .unset, .unset, .unset, .unset, .unset] [(.int ((1 : Int32) + ((((x4.toUInt32 >>> ((8 : Int32) &&& 31).toUInt32).toInt32) &&& (255 : Int32)) % (own_szN k4))))]))
  refine Go.of (fun _ q => XS.istore X8.here hx rfl (hb hby at_54) rfl (l' := #[.val (.int x1), .val (.int x2), .val (.int x3), .val (.int x4), .val (.int x5), .val (.int (Int32.ofNat k1)), .val (.int (Int32.ofNat k2)), .val (.int (Int32.ofNat k3)), .val (.int (Int32.ofNat k4)), .val (.int sp1), .val (.int sp2), .val (.int sp3), .val (.int ((1 : Int32) + ((((x4.toUInt32 >>> ((8 : Int32) &&& 31).toUInt32).toInt32) &&& (255 : Int32)) % (own_szN k4)))), .unset, .unset, .unset, .unset, .unset, .unset, .unset, .unset, .unset, .unset, .unset, .unset]) rfl q) ?_
  obtain ⟨sp4, hsp4⟩ : ∃ z, z = ((1 : Int32) + ((((x4.toUInt32 >>> ((8 : Int32) &&& 31).toUInt32).toInt32) &&& (255 : Int32)) % (own_szN k4))) := ⟨_, rfl⟩
  rw [← hsp4]
  show Go _ _ _ _ _ _ _ (T8.setTop (mkF m 56 #[.val (.int x1), .val (.int x2), .val (.int x3), .val (.int x4), .val (.int x5), .val (.int (Int32.ofNat k1)), .val (.int (Int32.ofNat k2)), .val (.int (Int32.ofNat k3)), .val (.int (Int32.ofNat k4)), .val (.int sp1), .val (.int sp2), .val (.int sp3), .val (.int sp4), .unset, .unset, .unset, .unset, .unset, .unset, .unset, .unset, .unset, .unset, .unset, .unset] []))
  refine Go.of (fun _ q => XS.iloadN X8.here hx rfl (hb hby at_56) rfl q) ?_
  show Go _ _ _ _ _ _ _ (T8.setTop (mkF m 57 #[.val (.int x1), .val (.int x2), .val (.int x3), .val (.int x4), .val (.int x5), .val (.int (Int32.ofNat k1)), .val (.int (Int32.ofNat k2)), .val (.int (Int32.ofNat k3)), .val (.int (Int32.ofNat k4)), .val (.int sp1), .val (.int sp2), .val (.int sp3), .val (.int sp4), .unset, .unset, .unset, .unset, .unset, .unset, .unset, .unset, .unset, .unset, .unset, .unset] [(.int x1)]))
  refine Go.static X8 hx hZ (y := (⟨"com/example/tundra_ascent/tundraascent/rules/DisplayPawnsOfPinLaw", "ani", "(I)I"⟩ : MethodName)) (argsL := [(.int x1)]) hown (hw _ (List.mem_of_getElem? (i := 11) rfl)) (hw _ (List.mem_of_getElem? (i := 12) rfl)) (hw _ (List.mem_of_getElem? (i := 2) rfl)) (hw _ (List.mem_of_getElem? (i := 13) rfl)) (by decide) 0 rfl (rm4 l Z a0 hw x1 T8.heap n0 Zs ) (by decide) (by decide) (by decide) (by decide) (g := (mkF m 57 #[.val (.int x1), .val (.int x2), .val (.int x3), .val (.int x4), .val (.int x5), .val (.int (Int32.ofNat k1)), .val (.int (Int32.ofNat k2)), .val (.int (Int32.ofNat k3)), .val (.int (Int32.ofNat k4)), .val (.int sp1), .val (.int sp2), .val (.int sp3), .val (.int sp4), .unset, .unset, .unset, .unset, .unset, .unset, .unset, .unset, .unset, .unset, .unset, .unset] [(.int x1)])) rfl (by rw [hml]; rfl) (rest := []) (lenOf pd0 rfl) rfl (by show 2 * 0 + _ ≤ _; exact Nat.le_of_eq rfl) (hb hby at_57) ?_
  intro T9 v9 L9 X9 q9
  obtain ⟨rfl, Nq9, e9⟩ := q9
  have N9 := Fr.app N8 Nq9
  show Go _ _ _ _ _ _ _ (T9.setTop (mkF m 60 #[.val (.int x1), .val (.int x2), .val (.int x3), .val (.int x4), .val (.int x5), .val (.int (Int32.ofNat k1)), .val (.int (Int32.ofNat k2)), .val (.int (Int32.ofNat k3)), .val (.int (Int32.ofNat k4)), .val (.int sp1), .val (.int sp2), .val (.int sp3), .val (.int sp4), .unset, .unset, .unset, .unset, .unset, .unset, .unset, .unset, .unset, .unset, .unset, .unset] [(.int ((((x1.toUInt32 >>> ((16 : Int32) &&& 31).toUInt32).toInt32) &&& (255 : Int32)) % (6 : Int32)))]))
  refine Go.of (fun _ q => XS.istore X9.here hx rfl (hb hby at_60) rfl (l' := #[.val (.int x1), .val (.int x2), .val (.int x3), .val (.int x4), .val (.int x5), .val (.int (Int32.ofNat k1)), .val (.int (Int32.ofNat k2)), .val (.int (Int32.ofNat k3)), .val (.int (Int32.ofNat k4)), .val (.int sp1), .val (.int sp2), .val (.int sp3), .val (.int sp4), .val (.int ((((x1.toUInt32 >>> ((16 : Int32) &&& 31).toUInt32).toInt32) &&& (255 : Int32)) % (6 : Int32))), .unset, .unset, .unset, .unset, .unset, .unset, .unset, .unset, .unset, .unset, .unset]) rfl q) ?_
  obtain ⟨j1, hj1, ej1⟩ := own_mod (((x1.toUInt32 >>> ((16 : Int32) &&& 31).toUInt32).toInt32) &&& (255 : Int32)) (6 : Int32) 6 (by decide) (by decide) (own_255 _)
  rw [ej1]
  show Go _ _ _ _ _ _ _ (T9.setTop (mkF m 62 #[.val (.int x1), .val (.int x2), .val (.int x3), .val (.int x4), .val (.int x5), .val (.int (Int32.ofNat k1)), .val (.int (Int32.ofNat k2)), .val (.int (Int32.ofNat k3)), .val (.int (Int32.ofNat k4)), .val (.int sp1), .val (.int sp2), .val (.int sp3), .val (.int sp4), .val (.int (Int32.ofNat j1)), .unset, .unset, .unset, .unset, .unset, .unset, .unset, .unset, .unset, .unset, .unset] []))
  refine Go.of (fun _ q => XS.iloadN X9.here hx rfl (hb hby at_62) rfl q) ?_
  show Go _ _ _ _ _ _ _ (T9.setTop (mkF m 63 #[.val (.int x1), .val (.int x2), .val (.int x3), .val (.int x4), .val (.int x5), .val (.int (Int32.ofNat k1)), .val (.int (Int32.ofNat k2)), .val (.int (Int32.ofNat k3)), .val (.int (Int32.ofNat k4)), .val (.int sp1), .val (.int sp2), .val (.int sp3), .val (.int sp4), .val (.int (Int32.ofNat j1)), .unset, .unset, .unset, .unset, .unset, .unset, .unset, .unset, .unset, .unset, .unset] [(.int x2)]))
  refine Go.static X9 hx hZ (y := (⟨"com/example/tundra_ascent/tundraascent/rules/DisplayPawnsOfPinLaw", "ani", "(I)I"⟩ : MethodName)) (argsL := [(.int x2)]) hown (hw _ (List.mem_of_getElem? (i := 11) rfl)) (hw _ (List.mem_of_getElem? (i := 12) rfl)) (hw _ (List.mem_of_getElem? (i := 2) rfl)) (hw _ (List.mem_of_getElem? (i := 13) rfl)) (by decide) 0 e9 (rm4 l Z a0 hw x2 T8.heap n0 Zs ) (by decide) (by decide) (by decide) (by decide) (g := (mkF m 63 #[.val (.int x1), .val (.int x2), .val (.int x3), .val (.int x4), .val (.int x5), .val (.int (Int32.ofNat k1)), .val (.int (Int32.ofNat k2)), .val (.int (Int32.ofNat k3)), .val (.int (Int32.ofNat k4)), .val (.int sp1), .val (.int sp2), .val (.int sp3), .val (.int sp4), .val (.int (Int32.ofNat j1)), .unset, .unset, .unset, .unset, .unset, .unset, .unset, .unset, .unset, .unset, .unset] [(.int x2)])) rfl (by rw [hml]; rfl) (rest := []) (lenOf pd0 rfl) rfl (by show 2 * 0 + _ ≤ _; exact Nat.le_of_eq rfl) (hb hby at_63) ?_
  intro T10 v10 L10 X10 q10
  obtain ⟨rfl, Nq10, e10⟩ := q10
  have N10 := Fr.app N9 Nq10
  show Go _ _ _ _ _ _ _ (T10.setTop (mkF m 66 #[.val (.int x1), .val (.int x2), .val (.int x3), .val (.int x4), .val (.int x5), .val (.int (Int32.ofNat k1)), .val (.int (Int32.ofNat k2)), .val (.int (Int32.ofNat k3)), .val (.int (Int32.ofNat k4)), .val (.int sp1), .val (.int sp2), .val (.int sp3), .val (.int sp4), .val (.int (Int32.ofNat j1)), .unset, .unset, .unset, .unset, .unset, .unset, .unset, .unset, .unset, .unset, .unset] [(.int ((((x2.toUInt32 >>> ((16 : Int32) &&& 31).toUInt32).toInt32) &&& (255 : Int32)) % (6 : Int32)))]))
  refine Go.of (fun _ q => XS.istore X10.here hx rfl (hb hby at_66) rfl (l' := #[.val (.int x1), .val (.int x2), .val (.int x3), .val (.int x4), .val (.int x5), .val (.int (Int32.ofNat k1)), .val (.int (Int32.ofNat k2)), .val (.int (Int32.ofNat k3)), .val (.int (Int32.ofNat k4)), .val (.int sp1), .val (.int sp2), .val (.int sp3), .val (.int sp4), .val (.int (Int32.ofNat j1)), .val (.int ((((x2.toUInt32 >>> ((16 : Int32) &&& 31).toUInt32).toInt32) &&& (255 : Int32)) % (6 : Int32))), .unset, .unset, .unset, .unset, .unset, .unset, .unset, .unset, .unset, .unset]) rfl q) ?_
  obtain ⟨j2, hj2, ej2⟩ := own_mod (((x2.toUInt32 >>> ((16 : Int32) &&& 31).toUInt32).toInt32) &&& (255 : Int32)) (6 : Int32) 6 (by decide) (by decide) (own_255 _)
  rw [ej2]
  show Go _ _ _ _ _ _ _ (T10.setTop (mkF m 68 #[.val (.int x1), .val (.int x2), .val (.int x3), .val (.int x4), .val (.int x5), .val (.int (Int32.ofNat k1)), .val (.int (Int32.ofNat k2)), .val (.int (Int32.ofNat k3)), .val (.int (Int32.ofNat k4)), .val (.int sp1), .val (.int sp2), .val (.int sp3), .val (.int sp4), .val (.int (Int32.ofNat j1)), .val (.int (Int32.ofNat j2)), .unset, .unset, .unset, .unset, .unset, .unset, .unset, .unset, .unset, .unset] []))
  refine Go.of (fun _ q => XS.iloadN X10.here hx rfl (hb hby at_68) rfl q) ?_
  show Go _ _ _ _ _ _ _ (T10.setTop (mkF m 69 #[.val (.int x1), .val (.int x2), .val (.int x3), .val (.int x4), .val (.int x5), .val (.int (Int32.ofNat k1)), .val (.int (Int32.ofNat k2)), .val (.int (Int32.ofNat k3)), .val (.int (Int32.ofNat k4)), .val (.int sp1), .val (.int sp2), .val (.int sp3), .val (.int sp4), .val (.int (Int32.ofNat j1)), .val (.int (Int32.ofNat j2)), .unset, .unset, .unset, .unset, .unset, .unset, .unset, .unset, .unset, .unset] [(.int x3)]))
  refine Go.static X10 hx hZ (y := (⟨"com/example/tundra_ascent/tundraascent/rules/DisplayPawnsOfPinLaw", "ani", "(I)I"⟩ : MethodName)) (argsL := [(.int x3)]) hown (hw _ (List.mem_of_getElem? (i := 11) rfl)) (hw _ (List.mem_of_getElem? (i := 12) rfl)) (hw _ (List.mem_of_getElem? (i := 2) rfl)) (hw _ (List.mem_of_getElem? (i := 13) rfl)) (by decide) 0 e10 (rm4 l Z a0 hw x3 T8.heap n0 Zs ) (by decide) (by decide) (by decide) (by decide) (g := (mkF m 69 #[.val (.int x1), .val (.int x2), .val (.int x3), .val (.int x4), .val (.int x5), .val (.int (Int32.ofNat k1)), .val (.int (Int32.ofNat k2)), .val (.int (Int32.ofNat k3)), .val (.int (Int32.ofNat k4)), .val (.int sp1), .val (.int sp2), .val (.int sp3), .val (.int sp4), .val (.int (Int32.ofNat j1)), .val (.int (Int32.ofNat j2)), .unset, .unset, .unset, .unset, .unset, .unset, .unset, .unset, .unset, .unset] [(.int x3)])) rfl (by rw [hml]; rfl) (rest := []) (lenOf pd0 rfl) rfl (by show 2 * 0 + _ ≤ _; exact Nat.le_of_eq rfl) (hb hby at_69) ?_
  intro T11 v11 L11 X11 q11
  obtain ⟨rfl, Nq11, e11⟩ := q11
  have N11 := Fr.app N10 Nq11
  show Go _ _ _ _ _ _ _ (T11.setTop (mkF m 72 #[.val (.int x1), .val (.int x2), .val (.int x3), .val (.int x4), .val (.int x5), .val (.int (Int32.ofNat k1)), .val (.int (Int32.ofNat k2)), .val (.int (Int32.ofNat k3)), .val (.int (Int32.ofNat k4)), .val (.int sp1), .val (.int sp2), .val (.int sp3), .val (.int sp4), .val (.int (Int32.ofNat j1)), .val (.int (Int32.ofNat j2)), .unset, .unset, .unset, .unset, .unset, .unset, .unset, .unset, .unset, .unset] [(.int ((((x3.toUInt32 >>> ((16 : Int32) &&& 31).toUInt32).toInt32) &&& (255 : Int32)) % (6 : Int32)))]))
  refine Go.of (fun _ q => XS.istore X11.here hx rfl (hb hby at_72) rfl (l' := #[.val (.int x1), .val (.int x2), .val (.int x3), .val (.int x4), .val (.int x5), .val (.int (Int32.ofNat k1)), .val (.int (Int32.ofNat k2)), .val (.int (Int32.ofNat k3)), .val (.int (Int32.ofNat k4)), .val (.int sp1), .val (.int sp2), .val (.int sp3), .val (.int sp4), .val (.int (Int32.ofNat j1)), .val (.int (Int32.ofNat j2)), .val (.int ((((x3.toUInt32 >>> ((16 : Int32) &&& 31).toUInt32).toInt32) &&& (255 : Int32)) % (6 : Int32))), .unset, .unset, .unset, .unset, .unset, .unset, .unset, .unset, .unset]) rfl q) ?_
  obtain ⟨j3, hj3, ej3⟩ := own_mod (((x3.toUInt32 >>> ((16 : Int32) &&& 31).toUInt32).toInt32) &&& (255 : Int32)) (6 : Int32) 6 (by decide) (by decide) (own_255 _)
  rw [ej3]
  show Go _ _ _ _ _ _ _ (T11.setTop (mkF m 74 #[.val (.int x1), .val (.int x2), .val (.int x3), .val (.int x4), .val (.int x5), .val (.int (Int32.ofNat k1)), .val (.int (Int32.ofNat k2)), .val (.int (Int32.ofNat k3)), .val (.int (Int32.ofNat k4)), .val (.int sp1), .val (.int sp2), .val (.int sp3), .val (.int sp4), .val (.int (Int32.ofNat j1)), .val (.int (Int32.ofNat j2)), .val (.int (Int32.ofNat j3)), .unset, .unset, .unset, .unset, .unset, .unset, .unset, .unset, .unset] []))
  refine Go.of (fun _ q => XS.iloadN X11.here hx rfl (hb hby at_74) rfl q) ?_
  show Go _ _ _ _ _ _ _ (T11.setTop (mkF m 75 #[.val (.int x1), .val (.int x2), .val (.int x3), .val (.int x4), .val (.int x5), .val (.int (Int32.ofNat k1)), .val (.int (Int32.ofNat k2)), .val (.int (Int32.ofNat k3)), .val (.int (Int32.ofNat k4)), .val (.int sp1), .val (.int sp2), .val (.int sp3), .val (.int sp4), .val (.int (Int32.ofNat j1)), .val (.int (Int32.ofNat j2)), .val (.int (Int32.ofNat j3)), .unset, .unset, .unset, .unset, .unset, .unset, .unset, .unset, .unset] [(.int x4)]))
  refine Go.static X11 hx hZ (y := (⟨"com/example/tundra_ascent/tundraascent/rules/DisplayPawnsOfPinLaw", "ani", "(I)I"⟩ : MethodName)) (argsL := [(.int x4)]) hown (hw _ (List.mem_of_getElem? (i := 11) rfl)) (hw _ (List.mem_of_getElem? (i := 12) rfl)) (hw _ (List.mem_of_getElem? (i := 2) rfl)) (hw _ (List.mem_of_getElem? (i := 13) rfl)) (by decide) 0 e11 (rm4 l Z a0 hw x4 T8.heap n0 Zs ) (by decide) (by decide) (by decide) (by decide) (g := (mkF m 75 #[.val (.int x1), .val (.int x2), .val (.int x3), .val (.int x4), .val (.int x5), .val (.int (Int32.ofNat k1)), .val (.int (Int32.ofNat k2)), .val (.int (Int32.ofNat k3)), .val (.int (Int32.ofNat k4)), .val (.int sp1), .val (.int sp2), .val (.int sp3), .val (.int sp4), .val (.int (Int32.ofNat j1)), .val (.int (Int32.ofNat j2)), .val (.int (Int32.ofNat j3)), .unset, .unset, .unset, .unset, .unset, .unset, .unset, .unset, .unset] [(.int x4)])) rfl (by rw [hml]; rfl) (rest := []) (lenOf pd0 rfl) rfl (by show 2 * 0 + _ ≤ _; exact Nat.le_of_eq rfl) (hb hby at_75) ?_
  intro T12 v12 L12 X12 q12
  obtain ⟨rfl, Nq12, e12⟩ := q12
  have N12 := Fr.app N11 Nq12
  show Go _ _ _ _ _ _ _ (T12.setTop (mkF m 78 #[.val (.int x1), .val (.int x2), .val (.int x3), .val (.int x4), .val (.int x5), .val (.int (Int32.ofNat k1)), .val (.int (Int32.ofNat k2)), .val (.int (Int32.ofNat k3)), .val (.int (Int32.ofNat k4)), .val (.int sp1), .val (.int sp2), .val (.int sp3), .val (.int sp4), .val (.int (Int32.ofNat j1)), .val (.int (Int32.ofNat j2)), .val (.int (Int32.ofNat j3)), .unset, .unset, .unset, .unset, .unset, .unset, .unset, .unset, .unset] [(.int ((((x4.toUInt32 >>> ((16 : Int32) &&& 31).toUInt32).toInt32) &&& (255 : Int32)) % (6 : Int32)))]))
  refine Go.of (fun _ q => XS.istore X12.here hx rfl (hb hby at_78) rfl (l' := #[.val (.int x1), .val (.int x2), .val (.int x3), .val (.int x4), .val (.int x5), .val (.int (Int32.ofNat k1)), .val (.int (Int32.ofNat k2)), .val (.int (Int32.ofNat k3)), .val (.int (Int32.ofNat k4)), .val (.int sp1), .val (.int sp2), .val (.int sp3), .val (.int sp4), .val (.int (Int32.ofNat j1)), .val (.int (Int32.ofNat j2)), .val (.int (Int32.ofNat j3)), .val (.int ((((x4.toUInt32 >>> ((16 : Int32) &&& 31).toUInt32).toInt32) &&& (255 : Int32)) % (6 : Int32))), .unset, .unset, .unset, .unset, .unset, .unset, .unset, .unset]) rfl q) ?_
  obtain ⟨j4, hj4, ej4⟩ := own_mod (((x4.toUInt32 >>> ((16 : Int32) &&& 31).toUInt32).toInt32) &&& (255 : Int32)) (6 : Int32) 6 (by decide) (by decide) (own_255 _)
  rw [ej4]
  show Go _ _ _ _ _ _ _ (T12.setTop (mkF m 80 #[.val (.int x1), .val (.int x2), .val (.int x3), .val (.int x4), .val (.int x5), .val (.int (Int32.ofNat k1)), .val (.int (Int32.ofNat k2)), .val (.int (Int32.ofNat k3)), .val (.int (Int32.ofNat k4)), .val (.int sp1), .val (.int sp2), .val (.int sp3), .val (.int sp4), .val (.int (Int32.ofNat j1)), .val (.int (Int32.ofNat j2)), .val (.int (Int32.ofNat j3)), .val (.int (Int32.ofNat j4)), .unset, .unset, .unset, .unset, .unset, .unset, .unset, .unset] []))
  refine Go.of (fun _ q => XS.iload X12.here hx rfl (hb hby at_80) rfl q) ?_
  show Go _ _ _ _ _ _ _ (T12.setTop (mkF m 82 #[.val (.int x1), .val (.int x2), .val (.int x3), .val (.int x4), .val (.int x5), .val (.int (Int32.ofNat k1)), .val (.int (Int32.ofNat k2)), .val (.int (Int32.ofNat k3)), .val (.int (Int32.ofNat k4)), .val (.int sp1), .val (.int sp2), .val (.int sp3), .val (.int sp4), .val (.int (Int32.ofNat j1)), .val (.int (Int32.ofNat j2)), .val (.int (Int32.ofNat j3)), .val (.int (Int32.ofNat j4)), .unset, .unset, .unset, .unset, .unset, .unset, .unset, .unset] [(.int x5)]))
  refine Go.of (fun _ q => XS.sipush X12.here hx rfl (hb hby at_82) q) ?_
  show Go _ _ _ _ _ _ _ (T12.setTop (mkF m 85 #[.val (.int x1), .val (.int x2), .val (.int x3), .val (.int x4), .val (.int x5), .val (.int (Int32.ofNat k1)), .val (.int (Int32.ofNat k2)), .val (.int (Int32.ofNat k3)), .val (.int (Int32.ofNat k4)), .val (.int sp1), .val (.int sp2), .val (.int sp3), .val (.int sp4), .val (.int (Int32.ofNat j1)), .val (.int (Int32.ofNat j2)), .val (.int (Int32.ofNat j3)), .val (.int (Int32.ofNat j4)), .unset, .unset, .unset, .unset, .unset, .unset, .unset, .unset] [(.int (255 : Int32)), (.int x5)]))
  refine Go.of (fun _ q => XS.iand X12.here hx rfl (hb hby at_85) rfl q) ?_
  show Go _ _ _ _ _ _ _ (T12.setTop (mkF m 86 #[.val (.int x1), .val (.int x2), .val (.int x3), .val (.int x4), .val (.int x5), .val (.int (Int32.ofNat k1)), .val (.int (Int32.ofNat k2)), .val (.int (Int32.ofNat k3)), .val (.int (Int32.ofNat k4)), .val (.int sp1), .val (.int sp2), .val (.int sp3), .val (.int sp4), .val (.int (Int32.ofNat j1)), .val (.int (Int32.ofNat j2)), .val (.int (Int32.ofNat j3)), .val (.int (Int32.ofNat j4)), .unset, .unset, .unset, .unset, .unset, .unset, .unset, .unset] [(.int (x5 &&& (255 : Int32)))]))
  refine Go.of (fun _ q => XS.bipush X12.here hx rfl (hb hby at_86) q) ?_
  show Go _ _ _ _ _ _ _ (T12.setTop (mkF m 88 #[.val (.int x1), .val (.int x2), .val (.int x3), .val (.int x4), .val (.int x5), .val (.int (Int32.ofNat k1)), .val (.int (Int32.ofNat k2)), .val (.int (Int32.ofNat k3)), .val (.int (Int32.ofNat k4)), .val (.int sp1), .val (.int sp2), .val (.int sp3), .val (.int sp4), .val (.int (Int32.ofNat j1)), .val (.int (Int32.ofNat j2)), .val (.int (Int32.ofNat j3)), .val (.int (Int32.ofNat j4)), .unset, .unset, .unset, .unset, .unset, .unset, .unset, .unset] [(.int (6 : Int32)), (.int (x5 &&& (255 : Int32)))]))
  refine Go.of (fun _ q => iremM X12 hx rfl (hb hby at_88) rfl (by decide) q) ?_
  show Go _ _ _ _ _ _ _ (T12.setTop (mkF m 89 #[.val (.int x1), .val (.int x2), .val (.int x3), .val (.int x4), .val (.int x5), .val (.int (Int32.ofNat k1)), .val (.int (Int32.ofNat k2)), .val (.int (Int32.ofNat k3)), .val (.int (Int32.ofNat k4)), .val (.int sp1), .val (.int sp2), .val (.int sp3), .val (.int sp4), .val (.int (Int32.ofNat j1)), .val (.int (Int32.ofNat j2)), .val (.int (Int32.ofNat j3)), .val (.int (Int32.ofNat j4)), .unset, .unset, .unset, .unset, .unset, .unset, .unset, .unset] [(.int ((x5 &&& (255 : Int32)) % (6 : Int32)))]))
  refine Go.of (fun _ q => XS.istore X12.here hx rfl (hb hby at_89) rfl (l' := #[.val (.int x1), .val (.int x2), .val (.int x3), .val (.int x4), .val (.int x5), .val (.int (Int32.ofNat k1)), .val (.int (Int32.ofNat k2)), .val (.int (Int32.ofNat k3)), .val (.int (Int32.ofNat k4)), .val (.int sp1), .val (.int sp2), .val (.int sp3), .val (.int sp4), .val (.int (Int32.ofNat j1)), .val (.int (Int32.ofNat j2)), .val (.int (Int32.ofNat j3)), .val (.int (Int32.ofNat j4)), .val (.int ((x5 &&& (255 : Int32)) % (6 : Int32))), .unset, .unset, .unset, .unset, .unset, .unset, .unset]) rfl q) ?_
  obtain ⟨jq, hjq, ejq⟩ := own_mod (x5 &&& (255 : Int32)) (6 : Int32) 6 (by decide) (by decide) (own_255 x5)
  rw [ejq]
  show Go _ _ _ _ _ _ _ (T12.setTop (mkF m 91 #[.val (.int x1), .val (.int x2), .val (.int x3), .val (.int x4), .val (.int x5), .val (.int (Int32.ofNat k1)), .val (.int (Int32.ofNat k2)), .val (.int (Int32.ofNat k3)), .val (.int (Int32.ofNat k4)), .val (.int sp1), .val (.int sp2), .val (.int sp3), .val (.int sp4), .val (.int (Int32.ofNat j1)), .val (.int (Int32.ofNat j2)), .val (.int (Int32.ofNat j3)), .val (.int (Int32.ofNat j4)), .val (.int (Int32.ofNat jq)), .unset, .unset, .unset, .unset, .unset, .unset, .unset] []))
  refine Go.of (fun _ q => XS.iloadN X12.here hx rfl (hb hby at_91) rfl q) ?_
  show Go _ _ _ _ _ _ _ (T12.setTop (mkF m 92 #[.val (.int x1), .val (.int x2), .val (.int x3), .val (.int x4), .val (.int x5), .val (.int (Int32.ofNat k1)), .val (.int (Int32.ofNat k2)), .val (.int (Int32.ofNat k3)), .val (.int (Int32.ofNat k4)), .val (.int sp1), .val (.int sp2), .val (.int sp3), .val (.int sp4), .val (.int (Int32.ofNat j1)), .val (.int (Int32.ofNat j2)), .val (.int (Int32.ofNat j3)), .val (.int (Int32.ofNat j4)), .val (.int (Int32.ofNat jq)), .unset, .unset, .unset, .unset, .unset, .unset, .unset] [(.int x1)]))
  refine Go.static X12 hx hZ (y := (⟨"com/example/tundra_ascent/tundraascent/rules/DisplayPawnsOfPinLaw", "flag", "(I)Z"⟩ : MethodName)) (argsL := [(.int x1)]) hown (hw _ (List.mem_of_getElem? (i := 14) rfl)) (hw _ (List.mem_of_getElem? (i := 15) rfl)) (hw _ (List.mem_of_getElem? (i := 2) rfl)) (hw _ (List.mem_of_getElem? (i := 16) rfl)) (by decide) 0 e12 (rm5 l Z a0 hw x1 T8.heap n0 Zs ) (by decide) (by decide) (by decide) (by decide) (g := (mkF m 92 #[.val (.int x1), .val (.int x2), .val (.int x3), .val (.int x4), .val (.int x5), .val (.int (Int32.ofNat k1)), .val (.int (Int32.ofNat k2)), .val (.int (Int32.ofNat k3)), .val (.int (Int32.ofNat k4)), .val (.int sp1), .val (.int sp2), .val (.int sp3), .val (.int sp4), .val (.int (Int32.ofNat j1)), .val (.int (Int32.ofNat j2)), .val (.int (Int32.ofNat j3)), .val (.int (Int32.ofNat j4)), .val (.int (Int32.ofNat jq)), .unset, .unset, .unset, .unset, .unset, .unset, .unset] [(.int x1)])) rfl (by rw [hml]; rfl) (rest := []) (lenOf pd6 rfl) rfl (by show 2 * 0 + _ ≤ _; exact Nat.le_of_eq rfl) (hb hby at_92) ?_
  intro T13 v13 L13 X13 q13
  obtain ⟨rfl, Nq13, e13⟩ := q13
  have N13 := Fr.app N12 Nq13
  show Go _ _ _ _ _ _ _ (T13.setTop (mkF m 95 #[.val (.int x1), .val (.int x2), .val (.int x3), .val (.int x4), .val (.int x5), .val (.int (Int32.ofNat k1)), .val (.int (Int32.ofNat k2)), .val (.int (Int32.ofNat k3)), .val (.int (Int32.ofNat k4)), .val (.int sp1), .val (.int sp2), .val (.int sp3), .val (.int sp4), .val (.int (Int32.ofNat j1)), .val (.int (Int32.ofNat j2)), .val (.int (Int32.ofNat j3)), .val (.int (Int32.ofNat j4)), .val (.int (Int32.ofNat jq)), .unset, .unset, .unset, .unset, .unset, .unset, .unset] [(.int (if (((x1.toUInt32 >>> ((24 : Int32) &&& 31).toUInt32).toInt32) &&& (1 : Int32)) = (0 : Int32) then (0 : Int32) else (1 : Int32)))]))
  refine Go.of (fun _ q => XS.istore X13.here hx rfl (hb hby at_95) rfl (l' := #[.val (.int x1), .val (.int x2), .val (.int x3), .val (.int x4), .val (.int x5), .val (.int (Int32.ofNat k1)), .val (.int (Int32.ofNat k2)), .val (.int (Int32.ofNat k3)), .val (.int (Int32.ofNat k4)), .val (.int sp1), .val (.int sp2), .val (.int sp3), .val (.int sp4), .val (.int (Int32.ofNat j1)), .val (.int (Int32.ofNat j2)), .val (.int (Int32.ofNat j3)), .val (.int (Int32.ofNat j4)), .val (.int (Int32.ofNat jq)), .val (.int (if (((x1.toUInt32 >>> ((24 : Int32) &&& 31).toUInt32).toInt32) &&& (1 : Int32)) = (0 : Int32) then (0 : Int32) else (1 : Int32))), .unset, .unset, .unset, .unset, .unset, .unset]) rfl q) ?_
  obtain ⟨on1, hon1⟩ : ∃ z, z = (if (((x1.toUInt32 >>> ((24 : Int32) &&& 31).toUInt32).toInt32) &&& (1 : Int32)) = (0 : Int32) then (0 : Int32) else (1 : Int32)) := ⟨_, rfl⟩
  rw [← hon1]
  show Go _ _ _ _ _ _ _ (T13.setTop (mkF m 97 #[.val (.int x1), .val (.int x2), .val (.int x3), .val (.int x4), .val (.int x5), .val (.int (Int32.ofNat k1)), .val (.int (Int32.ofNat k2)), .val (.int (Int32.ofNat k3)), .val (.int (Int32.ofNat k4)), .val (.int sp1), .val (.int sp2), .val (.int sp3), .val (.int sp4), .val (.int (Int32.ofNat j1)), .val (.int (Int32.ofNat j2)), .val (.int (Int32.ofNat j3)), .val (.int (Int32.ofNat j4)), .val (.int (Int32.ofNat jq)), .val (.int on1), .unset, .unset, .unset, .unset, .unset, .unset] []))
  refine Go.of (fun _ q => XS.iloadN X13.here hx rfl (hb hby at_97) rfl q) ?_
  show Go _ _ _ _ _ _ _ (T13.setTop (mkF m 98 #[.val (.int x1), .val (.int x2), .val (.int x3), .val (.int x4), .val (.int x5), .val (.int (Int32.ofNat k1)), .val (.int (Int32.ofNat k2)), .val (.int (Int32.ofNat k3)), .val (.int (Int32.ofNat k4)), .val (.int sp1), .val (.int sp2), .val (.int sp3), .val (.int sp4), .val (.int (Int32.ofNat j1)), .val (.int (Int32.ofNat j2)), .val (.int (Int32.ofNat j3)), .val (.int (Int32.ofNat j4)), .val (.int (Int32.ofNat jq)), .val (.int on1), .unset, .unset, .unset, .unset, .unset, .unset] [(.int x2)]))
  refine Go.static X13 hx hZ (y := (⟨"com/example/tundra_ascent/tundraascent/rules/DisplayPawnsOfPinLaw", "flag", "(I)Z"⟩ : MethodName)) (argsL := [(.int x2)]) hown (hw _ (List.mem_of_getElem? (i := 14) rfl)) (hw _ (List.mem_of_getElem? (i := 15) rfl)) (hw _ (List.mem_of_getElem? (i := 2) rfl)) (hw _ (List.mem_of_getElem? (i := 16) rfl)) (by decide) 0 e13 (rm5 l Z a0 hw x2 T8.heap n0 Zs ) (by decide) (by decide) (by decide) (by decide) (g := (mkF m 98 #[.val (.int x1), .val (.int x2), .val (.int x3), .val (.int x4), .val (.int x5), .val (.int (Int32.ofNat k1)), .val (.int (Int32.ofNat k2)), .val (.int (Int32.ofNat k3)), .val (.int (Int32.ofNat k4)), .val (.int sp1), .val (.int sp2), .val (.int sp3), .val (.int sp4), .val (.int (Int32.ofNat j1)), .val (.int (Int32.ofNat j2)), .val (.int (Int32.ofNat j3)), .val (.int (Int32.ofNat j4)), .val (.int (Int32.ofNat jq)), .val (.int on1), .unset, .unset, .unset, .unset, .unset, .unset] [(.int x2)])) rfl (by rw [hml]; rfl) (rest := []) (lenOf pd6 rfl) rfl (by show 2 * 0 + _ ≤ _; exact Nat.le_of_eq rfl) (hb hby at_98) ?_
  intro T14 v14 L14 X14 q14
  obtain ⟨rfl, Nq14, e14⟩ := q14
  have N14 := Fr.app N13 Nq14
  show Go _ _ _ _ _ _ _ (T14.setTop (mkF m 101 #[.val (.int x1), .val (.int x2), .val (.int x3), .val (.int x4), .val (.int x5), .val (.int (Int32.ofNat k1)), .val (.int (Int32.ofNat k2)), .val (.int (Int32.ofNat k3)), .val (.int (Int32.ofNat k4)), .val (.int sp1), .val (.int sp2), .val (.int sp3), .val (.int sp4), .val (.int (Int32.ofNat j1)), .val (.int (Int32.ofNat j2)), .val (.int (Int32.ofNat j3)), .val (.int (Int32.ofNat j4)), .val (.int (Int32.ofNat jq)), .val (.int on1), .unset, .unset, .unset, .unset, .unset, .unset] [(.int (if (((x2.toUInt32 >>> ((24 : Int32) &&& 31).toUInt32).toInt32) &&& (1 : Int32)) = (0 : Int32) then (0 : Int32) else (1 : Int32)))]))
  have J15 : ∀ (zJ15_0 : Int32), zJ15_0 = (if (if (((x2.toUInt32 >>> ((24 : Int32) &&& 31).toUInt32).toInt32) &&& (1 : Int32)) = (0 : Int32) then (0 : Int32) else (1 : Int32)) = (0 : Int32) then (0 : Int32) else (if on1 = (0 : Int32) then (1 : Int32) else (if (Int32.ofNat k1) = (Int32.ofNat k2) then (if sp1 = sp2 then (0 : Int32) else (1 : Int32)) else (1 : Int32)))) → Go p e below s room_1.cells room_1.slots (Q0 Z x1 x2 x3 x4 x5 p0 p1 p2 p3 p4 p5 q0 q1 q2 q3 q4 q5 q6 q7 q8 q9 q10 q11 fi kf h0 n0) (T14.setTop (mkF m 128 #[.val (.int x1), .val (.int x2), .val (.int x3), .val (.int x4), .val (.int x5), .val (.int (Int32.ofNat k1)), .val (.int (Int32.ofNat k2)), .val (.int (Int32.ofNat k3)), .val (.int (Int32.ofNat k4)), .val (.int sp1), .val (.int sp2), .val (.int sp3), .val (.int sp4), .val (.int (Int32.ofNat j1)), .val (.int (Int32.ofNat j2)), .val (.int (Int32.ofNat j3)), .val (.int (Int32.ofNat j4)), .val (.int (Int32.ofNat jq)), .val (.int on1), .unset, .unset, .unset, .unset, .unset, .unset] [(.int zJ15_0)])) := by
    intro zJ15_0 hzJ15_0
    show Go _ _ _ _ _ _ _ (T14.setTop (mkF m 128 #[.val (.int x1), .val (.int x2), .val (.int x3), .val (.int x4), .val (.int x5), .val (.int (Int32.ofNat k1)), .val (.int (Int32.ofNat k2)), .val (.int (Int32.ofNat k3)), .val (.int (Int32.ofNat k4)), .val (.int sp1), .val (.int sp2), .val (.int sp3), .val (.int sp4), .val (.int (Int32.ofNat j1)), .val (.int (Int32.ofNat j2)), .val (.int (Int32.ofNat j3)), .val (.int (Int32.ofNat j4)), .val (.int (Int32.ofNat jq)), .val (.int on1), .unset, .unset, .unset, .unset, .unset, .unset] [(.int zJ15_0)]))
    refine Go.of (fun _ q => XS.istore X14.here hx rfl (hb hby at_128) rfl (l' := #[.val (.int x1), .val (.int x2), .val (.int x3), .val (.int x4), .val (.int x5), .val (.int (Int32.ofNat k1)), .val (.int (Int32.ofNat k2)), .val (.int (Int32.ofNat k3)), .val (.int (Int32.ofNat k4)), .val (.int sp1), .val (.int sp2), .val (.int sp3), .val (.int sp4), .val (.int (Int32.ofNat j1)), .val (.int (Int32.ofNat j2)), .val (.int (Int32.ofNat j3)), .val (.int (Int32.ofNat j4)), .val (.int (Int32.ofNat jq)), .val (.int on1), .val (.int zJ15_0), .unset, .unset, .unset, .unset, .unset]) rfl q) ?_
    show Go _ _ _ _ _ _ _ (T14.setTop (mkF m 130 #[.val (.int x1), .val (.int x2), .val (.int x3), .val (.int x4), .val (.int x5), .val (.int (Int32.ofNat k1)), .val (.int (Int32.ofNat k2)), .val (.int (Int32.ofNat k3)), .val (.int (Int32.ofNat k4)), .val (.int sp1), .val (.int sp2), .val (.int sp3), .val (.int sp4), .val (.int (Int32.ofNat j1)), .val (.int (Int32.ofNat j2)), .val (.int (Int32.ofNat j3)), .val (.int (Int32.ofNat j4)), .val (.int (Int32.ofNat jq)), .val (.int on1), .val (.int zJ15_0), .unset, .unset, .unset, .unset, .unset] []))
    refine Go.of (fun _ q => XS.iloadN X14.here hx rfl (hb hby at_130) rfl q) ?_
    show Go _ _ _ _ _ _ _ (T14.setTop (mkF m 131 #[.val (.int x1), .val (.int x2), .val (.int x3), .val (.int x4), .val (.int x5), .val (.int (Int32.ofNat k1)), .val (.int (Int32.ofNat k2)), .val (.int (Int32.ofNat k3)), .val (.int (Int32.ofNat k4)), .val (.int sp1), .val (.int sp2), .val (.int sp3), .val (.int sp4), .val (.int (Int32.ofNat j1)), .val (.int (Int32.ofNat j2)), .val (.int (Int32.ofNat j3)), .val (.int (Int32.ofNat j4)), .val (.int (Int32.ofNat jq)), .val (.int on1), .val (.int zJ15_0), .unset, .unset, .unset, .unset, .unset] [(.int x3)]))
    refine Go.static X14 hx hZ (y := (⟨"com/example/tundra_ascent/tundraascent/rules/DisplayPawnsOfPinLaw", "flag", "(I)Z"⟩ : MethodName)) (argsL := [(.int x3)]) hown (hw _ (List.mem_of_getElem? (i := 14) rfl)) (hw _ (List.mem_of_getElem? (i := 15) rfl)) (hw _ (List.mem_of_getElem? (i := 2) rfl)) (hw _ (List.mem_of_getElem? (i := 16) rfl)) (by decide) 0 e14 (rm5 l Z a0 hw x3 T8.heap n0 Zs ) (by decide) (by decide) (by decide) (by decide) (g := (mkF m 131 #[.val (.int x1), .val (.int x2), .val (.int x3), .val (.int x4), .val (.int x5), .val (.int (Int32.ofNat k1)), .val (.int (Int32.ofNat k2)), .val (.int (Int32.ofNat k3)), .val (.int (Int32.ofNat k4)), .val (.int sp1), .val (.int sp2), .val (.int sp3), .val (.int sp4), .val (.int (Int32.ofNat j1)), .val (.int (Int32.ofNat j2)), .val (.int (Int32.ofNat j3)), .val (.int (Int32.ofNat j4)), .val (.int (Int32.ofNat jq)), .val (.int on1), .val (.int zJ15_0), .unset, .unset, .unset, .unset, .unset] [(.int x3)])) rfl (by rw [hml]; rfl) (rest := []) (lenOf pd6 rfl) rfl (by show 2 * 0 + _ ≤ _; exact Nat.le_of_eq rfl) (hb hby at_131) ?_
    intro T16 v16 L16 X16 q16
    obtain ⟨rfl, Nq16, e16⟩ := q16
    have N16 := Fr.app N14 Nq16
    show Go _ _ _ _ _ _ _ (T16.setTop (mkF m 134 #[.val (.int x1), .val (.int x2), .val (.int x3), .val (.int x4), .val (.int x5), .val (.int (Int32.ofNat k1)), .val (.int (Int32.ofNat k2)), .val (.int (Int32.ofNat k3)), .val (.int (Int32.ofNat k4)), .val (.int sp1), .val (.int sp2), .val (.int sp3), .val (.int sp4), .val (.int (Int32.ofNat j1)), .val (.int (Int32.ofNat j2)), .val (.int (Int32.ofNat j3)), .val (.int (Int32.ofNat j4)), .val (.int (Int32.ofNat jq)), .val (.int on1), .val (.int zJ15_0), .unset, .unset, .unset, .unset, .unset] [(.int (if (((x3.toUInt32 >>> ((24 : Int32) &&& 31).toUInt32).toInt32) &&& (1 : Int32)) = (0 : Int32) then (0 : Int32) else (1 : Int32)))]))
    have J17 : ∀ (zJ17_0 : Int32), zJ17_0 = (if (if (((x3.toUInt32 >>> ((24 : Int32) &&& 31).toUInt32).toInt32) &&& (1 : Int32)) = (0 : Int32) then (0 : Int32) else (1 : Int32)) = (0 : Int32) then (0 : Int32) else (if on1 = (0 : Int32) then (if zJ15_0 = (0 : Int32) then (1 : Int32) else (if (Int32.ofNat k2) = (Int32.ofNat k3) then (if sp2 = sp3 then (0 : Int32) else (1 : Int32)) else (1 : Int32))) else (if (Int32.ofNat k1) = (Int32.ofNat k3) then (if sp1 = sp3 then (0 : Int32) else (if zJ15_0 = (0 : Int32) then (1 : Int32) else (if (Int32.ofNat k2) = (Int32.ofNat k3) then (if sp2 = sp3 then (0 : Int32) else (1 : Int32)) else (1 : Int32)))) else (if zJ15_0 = (0 : Int32) then (1 : Int32) else (if (Int32.ofNat k2) = (Int32.ofNat k3) then (if sp2 = sp3 then (0 : Int32) else (1 : Int32)) else (1 : Int32)))))) → Go p e below s room_1.cells room_1.slots (Q0 Z x1 x2 x3 x4 x5 p0 p1 p2 p3 p4 p5 q0 q1 q2 q3 q4 q5 q6 q7 q8 q9 q10 q11 fi kf h0 n0) (T16.setTop (mkF m 180 #[.val (.int x1), .val (.int x2), .val (.int x3), .val (.int x4), .val (.int x5), .val (.int (Int32.ofNat k1)), .val (.int (Int32.ofNat k2)), .val (.int (Int32.ofNat k3)), .val (.int (Int32.ofNat k4)), .val (.int sp1), .val (.int sp2), .val (.int sp3), .val (.int sp4), .val (.int (Int32.ofNat j1)), .val (.int (Int32.ofNat j2)), .val (.int (Int32.ofNat j3)), .val (.int (Int32.ofNat j4)), .val (.int (Int32.ofNat jq)), .val (.int on1), .val (.int zJ15_0), .unset, .unset, .unset, .unset, .unset] [(.int zJ17_0)])) := by
      intro zJ17_0 hzJ17_0
      show Go _ _ _ _ _ _ _ (T16.setTop (mkF m 180 #[.val (.int x1), .val (.int x2), .val (.int x3), .val (.int x4), .val (.int x5), .val (.int (Int32.ofNat k1)), .val (.int (Int32.ofNat k2)), .val (.int (Int32.ofNat k3)), .val (.int (Int32.ofNat k4)), .val (.int sp1), .val (.int sp2), .val (.int sp3), .val (.int sp4), .val (.int (Int32.ofNat j1)), .val (.int (Int32.ofNat j2)), .val (.int (Int32.ofNat j3)), .val (.int (Int32.ofNat j4)), .val (.int (Int32.ofNat jq)), .val (.int on1), .val (.int zJ15_0), .unset, .unset, .unset, .unset, .unset] [(.int zJ17_0)]))
      refine Go.of (fun _ q => XS.istore X16.here hx rfl (hb hby at_180) rfl (l' := #[.val (.int x1), .val (.int x2), .val (.int x3), .val (.int x4), .val (.int x5), .val (.int (Int32.ofNat k1)), .val (.int (Int32.ofNat k2)), .val (.int (Int32.ofNat k3)), .val (.int (Int32.ofNat k4)), .val (.int sp1), .val (.int sp2), .val (.int sp3), .val (.int sp4), .val (.int (Int32.ofNat j1)), .val (.int (Int32.ofNat j2)), .val (.int (Int32.ofNat j3)), .val (.int (Int32.ofNat j4)), .val (.int (Int32.ofNat jq)), .val (.int on1), .val (.int zJ15_0), .val (.int zJ17_0), .unset, .unset, .unset, .unset]) rfl q) ?_
      show Go _ _ _ _ _ _ _ (T16.setTop (mkF m 182 #[.val (.int x1), .val (.int x2), .val (.int x3), .val (.int x4), .val (.int x5), .val (.int (Int32.ofNat k1)), .val (.int (Int32.ofNat k2)), .val (.int (Int32.ofNat k3)), .val (.int (Int32.ofNat k4)), .val (.int sp1), .val (.int sp2), .val (.int sp3), .val (.int sp4), .val (.int (Int32.ofNat j1)), .val (.int (Int32.ofNat j2)), .val (.int (Int32.ofNat j3)), .val (.int (Int32.ofNat j4)), .val (.int (Int32.ofNat jq)), .val (.int on1), .val (.int zJ15_0), .val (.int zJ17_0), .unset, .unset, .unset, .unset] []))
      refine Go.of (fun _ q => XS.iloadN X16.here hx rfl (hb hby at_182) rfl q) ?_
      show Go _ _ _ _ _ _ _ (T16.setTop (mkF m 183 #[.val (.int x1), .val (.int x2), .val (.int x3), .val (.int x4), .val (.int x5), .val (.int (Int32.ofNat k1)), .val (.int (Int32.ofNat k2)), .val (.int (Int32.ofNat k3)), .val (.int (Int32.ofNat k4)), .val (.int sp1), .val (.int sp2), .val (.int sp3), .val (.int sp4), .val (.int (Int32.ofNat j1)), .val (.int (Int32.ofNat j2)), .val (.int (Int32.ofNat j3)), .val (.int (Int32.ofNat j4)), .val (.int (Int32.ofNat jq)), .val (.int on1), .val (.int zJ15_0), .val (.int zJ17_0), .unset, .unset, .unset, .unset] [(.int x4)]))
      refine Go.static X16 hx hZ (y := (⟨"com/example/tundra_ascent/tundraascent/rules/DisplayPawnsOfPinLaw", "flag", "(I)Z"⟩ : MethodName)) (argsL := [(.int x4)]) hown (hw _ (List.mem_of_getElem? (i := 14) rfl)) (hw _ (List.mem_of_getElem? (i := 15) rfl)) (hw _ (List.mem_of_getElem? (i := 2) rfl)) (hw _ (List.mem_of_getElem? (i := 16) rfl)) (by decide) 0 e16 (rm5 l Z a0 hw x4 T8.heap n0 Zs ) (by decide) (by decide) (by decide) (by decide) (g := (mkF m 183 #[.val (.int x1), .val (.int x2), .val (.int x3), .val (.int x4), .val (.int x5), .val (.int (Int32.ofNat k1)), .val (.int (Int32.ofNat k2)), .val (.int (Int32.ofNat k3)), .val (.int (Int32.ofNat k4)), .val (.int sp1), .val (.int sp2), .val (.int sp3), .val (.int sp4), .val (.int (Int32.ofNat j1)), .val (.int (Int32.ofNat j2)), .val (.int (Int32.ofNat j3)), .val (.int (Int32.ofNat j4)), .val (.int (Int32.ofNat jq)), .val (.int on1), .val (.int zJ15_0), .val (.int zJ17_0), .unset, .unset, .unset, .unset] [(.int x4)])) rfl (by rw [hml]; rfl) (rest := []) (lenOf pd6 rfl) rfl (by show 2 * 0 + _ ≤ _; exact Nat.le_of_eq rfl) (hb hby at_183) ?_
      intro T18 v18 L18 X18 q18
      obtain ⟨rfl, Nq18, e18⟩ := q18
      have N18 := Fr.app N16 Nq18
      show Go _ _ _ _ _ _ _ (T18.setTop (mkF m 186 #[.val (.int x1), .val (.int x2), .val (.int x3), .val (.int x4), .val (.int x5), .val (.int (Int32.ofNat k1)), .val (.int (Int32.ofNat k2)), .val (.int (Int32.ofNat k3)), .val (.int (Int32.ofNat k4)), .val (.int sp1), .val (.int sp2), .val (.int sp3), .val (.int sp4), .val (.int (Int32.ofNat j1)), .val (.int (Int32.ofNat j2)), .val (.int (Int32.ofNat j3)), .val (.int (Int32.ofNat j4)), .val (.int (Int32.ofNat jq)), .val (.int on1), .val (.int zJ15_0), .val (.int zJ17_0), .unset, .unset, .unset, .unset] [(.int (if (((x4.toUInt32 >>> ((24 : Int32) &&& 31).toUInt32).toInt32) &&& (1 : Int32)) = (0 : Int32) then (0 : Int32) else (1 : Int32)))]))
      have J19 : ∀ (zJ19_0 : Int32), zJ19_0 = (if (if (((x4.toUInt32 >>> ((24 : Int32) &&& 31).toUInt32).toInt32) &&& (1 : Int32)) = (0 : Int32) then (0 : Int32) else (1 : Int32)) = (0 : Int32) then (0 : Int32) else (if on1 = (0 : Int32) then (if zJ15_0 = (0 : Int32) then (if zJ17_0 = (0 : Int32) then (1 : Int32) else (if (Int32.ofNat k3) = (Int32.ofNat k4) then (if sp3 = sp4 then (0 : Int32) else (1 : Int32)) else (1 : Int32))) else (if (Int32.ofNat k2) = (Int32.ofNat k4) then (if sp2 = sp4 then (0 : Int32) else (if zJ17_0 = (0 : Int32) then (1 : Int32) else (if (Int32.ofNat k3) = (Int32.ofNat k4) then (if sp3 = sp4 then (0 : Int32) else (1 : Int32)) else (1 : Int32)))) else (if zJ17_0 = (0 : Int32) then (1 : Int32) else (if (Int32.ofNat k3) = (Int32.ofNat k4) then (if sp3 = sp4 then (0 : Int32) else (1 : Int32)) else (1 : Int32))))) else (if (Int32.ofNat k1) = (Int32.ofNat k4) then (if sp1 = sp4 then (0 : Int32) else (if zJ15_0 = (0 : Int32) then (if zJ17_0 = (0 : Int32) then (1 : Int32) else (if (Int32.ofNat k3) = (Int32.ofNat k4) then (if sp3 = sp4 then (0 : Int32) else (1 : Int32)) else (1 : Int32))) else (if (Int32.ofNat k2) = (Int32.ofNat k4) then (if sp2 = sp4 then (0 : Int32) else (if zJ17_0 = (0 : Int32) then (1 : Int32) else (if (Int32.ofNat k3) = (Int32.ofNat k4) then (if sp3 = sp4 then (0 : Int32) else (1 : Int32)) else (1 : Int32)))) else (if zJ17_0 = (0 : Int32) then (1 : Int32) else (if (Int32.ofNat k3) = (Int32.ofNat k4) then (if sp3 = sp4 then (0 : Int32) else (1 : Int32)) else (1 : Int32)))))) else (if zJ15_0 = (0 : Int32) then (if zJ17_0 = (0 : Int32) then (1 : Int32) else (if (Int32.ofNat k3) = (Int32.ofNat k4) then (if sp3 = sp4 then (0 : Int32) else (1 : Int32)) else (1 : Int32))) else (if (Int32.ofNat k2) = (Int32.ofNat k4) then (if sp2 = sp4 then (0 : Int32) else (if zJ17_0 = (0 : Int32) then (1 : Int32) else (if (Int32.ofNat k3) = (Int32.ofNat k4) then (if sp3 = sp4 then (0 : Int32) else (1 : Int32)) else (1 : Int32)))) else (if zJ17_0 = (0 : Int32) then (1 : Int32) else (if (Int32.ofNat k3) = (Int32.ofNat k4) then (if sp3 = sp4 then (0 : Int32) else (1 : Int32)) else (1 : Int32)))))))) → Go p e below s room_1.cells room_1.slots (Q0 Z x1 x2 x3 x4 x5 p0 p1 p2 p3 p4 p5 q0 q1 q2 q3 q4 q5 q6 q7 q8 q9 q10 q11 fi kf h0 n0) (T18.setTop (mkF m 251 #[.val (.int x1), .val (.int x2), .val (.int x3), .val (.int x4), .val (.int x5), .val (.int (Int32.ofNat k1)), .val (.int (Int32.ofNat k2)), .val (.int (Int32.ofNat k3)), .val (.int (Int32.ofNat k4)), .val (.int sp1), .val (.int sp2), .val (.int sp3), .val (.int sp4), .val (.int (Int32.ofNat j1)), .val (.int (Int32.ofNat j2)), .val (.int (Int32.ofNat j3)), .val (.int (Int32.ofNat j4)), .val (.int (Int32.ofNat jq)), .val (.int on1), .val (.int zJ15_0), .val (.int zJ17_0), .unset, .unset, .unset, .unset] [(.int zJ19_0)])) := by
        intro zJ19_0 hzJ19_0
        show Go _ _ _ _ _ _ _ (T18.setTop (mkF m 251 #[.val (.int x1), .val (.int x2), .val (.int x3), .val (.int x4), .val (.int x5), .val (.int (Int32.ofNat k1)), .val (.int (Int32.ofNat k2)), .val (.int (Int32.ofNat k3)), .val (.int (Int32.ofNat k4)), .val (.int sp1), .val (.int sp2), .val (.int sp3), .val (.int sp4), .val (.int (Int32.ofNat j1)), .val (.int (Int32.ofNat j2)), .val (.int (Int32.ofNat j3)), .val (.int (Int32.ofNat j4)), .val (.int (Int32.ofNat jq)), .val (.int on1), .val (.int zJ15_0), .val (.int zJ17_0), .unset, .unset, .unset, .unset] [(.int zJ19_0)]))
        refine Go.of (fun _ q => XS.istore X18.here hx rfl (hb hby at_251) rfl (l' := #[.val (.int x1), .val (.int x2), .val (.int x3), .val (.int x4), .val (.int x5), .val (.int (Int32.ofNat k1)), .val (.int (Int32.ofNat k2)), .val (.int (Int32.ofNat k3)), .val (.int (Int32.ofNat k4)), .val (.int sp1), .val (.int sp2), .val (.int sp3), .val (.int sp4), .val (.int (Int32.ofNat j1)), .val (.int (Int32.ofNat j2)), .val (.int (Int32.ofNat j3)), .val (.int (Int32.ofNat j4)), .val (.int (Int32.ofNat jq)), .val (.int on1), .val (.int zJ15_0), .val (.int zJ17_0), .val (.int zJ19_0), .unset, .unset, .unset]) rfl q) ?_
        show Go _ _ _ _ _ _ _ (T18.setTop (mkF m 253 #[.val (.int x1), .val (.int x2), .val (.int x3), .val (.int x4), .val (.int x5), .val (.int (Int32.ofNat k1)), .val (.int (Int32.ofNat k2)), .val (.int (Int32.ofNat k3)), .val (.int (Int32.ofNat k4)), .val (.int sp1), .val (.int sp2), .val (.int sp3), .val (.int sp4), .val (.int (Int32.ofNat j1)), .val (.int (Int32.ofNat j2)), .val (.int (Int32.ofNat j3)), .val (.int (Int32.ofNat j4)), .val (.int (Int32.ofNat jq)), .val (.int on1), .val (.int zJ15_0), .val (.int zJ17_0), .val (.int zJ19_0), .unset, .unset, .unset] []))
        obtain ⟨T20, h20, X20, e20, E20, A20, D20, -, st20⟩ := newO X18 hx hZ hown (hw _ (List.mem_of_getElem? (i := 17) rfl)) (hw _ (List.mem_of_getElem? (i := 18) rfl)) (hw _ (List.mem_of_getElem? (i := 19) rfl)) e18 (g := (mkF m 253 #[.val (.int x1), .val (.int x2), .val (.int x3), .val (.int x4), .val (.int x5), .val (.int (Int32.ofNat k1)), .val (.int (Int32.ofNat k2)), .val (.int (Int32.ofNat k3)), .val (.int (Int32.ofNat k4)), .val (.int sp1), .val (.int sp2), .val (.int sp3), .val (.int sp4), .val (.int (Int32.ofNat j1)), .val (.int (Int32.ofNat j2)), .val (.int (Int32.ofNat j3)), .val (.int (Int32.ofNat j4)), .val (.int (Int32.ofNat jq)), .val (.int on1), .val (.int zJ15_0), .val (.int zJ17_0), .val (.int zJ19_0), .unset, .unset, .unset] [])) rfl (hb hby at_253) (by decide) (by decide)
        obtain ⟨a, g20⟩ : ∃ z, z = T8.heap.size := ⟨_, rfl⟩
        rw [← g20] at A20 D20 st20
        refine Go.of st20 ?_
        have g_a : n0 ≤ a := Nat.le_trans Zs (Nat.le_of_eq g20.symm)
        have sz_a : h0.size ≤ a := Nat.le_trans Kp.1 (Nat.le_of_eq g20.symm)
        have Zs := Nat.le_trans Zs E20.1
        have Kp := Kp.ext E20
        have Od := Od.ext E20
        have E_a := A20
        have F_a_pawns : Fld Z h20 a "com/example/tundra_ascent/tundraascent/rules/Display" "pawns" "[Lcom/example/tundra_ascent/tundraascent/rules/Animal;" .null := D20 (Or.inr (hw _ (List.mem_of_getElem? (i := 31) rfl))) (ty := (.array (.object "com/example/tundra_ascent/tundraascent/rules/Animal"))) (by decide)
        have F_a_occupied : Fld Z h20 a "com/example/tundra_ascent/tundraascent/rules/Display" "occupied" "J" (.long (0 : Int64)) := D20 (Or.inl (hw _ (List.mem_of_getElem? (i := 99) rfl))) (ty := .long) (by decide)
        show Go _ _ _ _ _ _ _ (T20.setTop (mkF m 256 #[.val (.int x1), .val (.int x2), .val (.int x3), .val (.int x4), .val (.int x5), .val (.int (Int32.ofNat k1)), .val (.int (Int32.ofNat k2)), .val (.int (Int32.ofNat k3)), .val (.int (Int32.ofNat k4)), .val (.int sp1), .val (.int sp2), .val (.int sp3), .val (.int sp4), .val (.int (Int32.ofNat j1)), .val (.int (Int32.ofNat j2)), .val (.int (Int32.ofNat j3)), .val (.int (Int32.ofNat j4)), .val (.int (Int32.ofNat jq)), .val (.int on1), .val (.int zJ15_0), .val (.int zJ17_0), .val (.int zJ19_0), .unset, .unset, .unset] [(.ref a)]))
        refine Go.of (fun _ q => XS.dup X20.here hx rfl (hb hby at_256) rfl rfl q) ?_
        show Go _ _ _ _ _ _ _ (T20.setTop (mkF m 257 #[.val (.int x1), .val (.int x2), .val (.int x3), .val (.int x4), .val (.int x5), .val (.int (Int32.ofNat k1)), .val (.int (Int32.ofNat k2)), .val (.int (Int32.ofNat k3)), .val (.int (Int32.ofNat k4)), .val (.int sp1), .val (.int sp2), .val (.int sp3), .val (.int sp4), .val (.int (Int32.ofNat j1)), .val (.int (Int32.ofNat j2)), .val (.int (Int32.ofNat j3)), .val (.int (Int32.ofNat j4)), .val (.int (Int32.ofNat jq)), .val (.int on1), .val (.int zJ15_0), .val (.int zJ17_0), .val (.int zJ19_0), .unset, .unset, .unset] [(.ref a), (.ref a)]))
        refine Go.special X20 hx hZ (y := (⟨"com/example/tundra_ascent/tundraascent/rules/Display", "<init>", "()V"⟩ : MethodName)) (a := a) (argsL := []) rfl hown (hw _ (List.mem_of_getElem? (i := 20) rfl)) (hw _ (List.mem_of_getElem? (i := 21) rfl)) (hw _ (List.mem_of_getElem? (i := 19) rfl)) (hw _ (List.mem_of_getElem? (i := 22) rfl)) (by decide) 1 e20 (rm6 l Z a0 hw a .null (0 : Int64) h20 n0 Zs Od E_a F_a_pawns F_a_occupied g_a Ssp) (by decide) (by decide) (by decide) (by decide) (g := (mkF m 257 #[.val (.int x1), .val (.int x2), .val (.int x3), .val (.int x4), .val (.int x5), .val (.int (Int32.ofNat k1)), .val (.int (Int32.ofNat k2)), .val (.int (Int32.ofNat k3)), .val (.int (Int32.ofNat k4)), .val (.int sp1), .val (.int sp2), .val (.int sp3), .val (.int sp4), .val (.int (Int32.ofNat j1)), .val (.int (Int32.ofNat j2)), .val (.int (Int32.ofNat j3)), .val (.int (Int32.ofNat j4)), .val (.int (Int32.ofNat jq)), .val (.int on1), .val (.int zJ15_0), .val (.int zJ17_0), .val (.int zJ19_0), .unset, .unset, .unset] [(.ref a), (.ref a)])) rfl (by rw [hml]; rfl) (rest := [(.ref a)]) (lenOf pd7 rfl) rfl (by show 2 * 0 + _ ≤ _; exact Nat.le_of_eq rfl) (hb hby at_257) ?_
        intro T21 v21 L21 X21 q21
        obtain ⟨pw, kp, rfl, Nq21, K21, f21_0, f21_1, f21_2, f21_3, f21_4, f21_5⟩ := q21
        have N21 := Fr.app N18 Nq21
        have g_pw : n0 ≤ pw := Nat.le_trans Zs f21_0
        have sz_pw : h0.size ≤ pw := Nat.le_trans Kp.1 f21_0
        have ne_a_pw : a ≠ pw := Nat.ne_of_lt (Nat.lt_of_lt_of_le E_a.lt f21_0)
        have Zs := Nat.le_trans Zs K21.1
        have Kp := Kp.trans K21 (allS (P := fun x => x ∈ [] ∨ h0.size ≤ x) (Or.inr sz_a) all0)
        have Od := Od.keep K21 (allS (P := fun x => n0 ≤ x) g_a all0)
        have E_a := E_a.keep K21
        have F_a_pawns := f21_2
        have F_a_occupied := f21_3
        have A_pw := f21_4
        have hov_21 := f21_5
        show Go _ _ _ _ _ _ _ (T21.setTop (mkF m 260 #[.val (.int x1), .val (.int x2), .val (.int x3), .val (.int x4), .val (.int x5), .val (.int (Int32.ofNat k1)), .val (.int (Int32.ofNat k2)), .val (.int (Int32.ofNat k3)), .val (.int (Int32.ofNat k4)), .val (.int sp1), .val (.int sp2), .val (.int sp3), .val (.int sp4), .val (.int (Int32.ofNat j1)), .val (.int (Int32.ofNat j2)), .val (.int (Int32.ofNat j3)), .val (.int (Int32.ofNat j4)), .val (.int (Int32.ofNat jq)), .val (.int on1), .val (.int zJ15_0), .val (.int zJ17_0), .val (.int zJ19_0), .unset, .unset, .unset] [(.ref a)]))
        refine Go.of (fun _ q => XS.astore X21.here hx rfl (hb hby at_260) rfl rfl (l' := #[.val (.int x1), .val (.int x2), .val (.int x3), .val (.int x4), .val (.int x5), .val (.int (Int32.ofNat k1)), .val (.int (Int32.ofNat k2)), .val (.int (Int32.ofNat k3)), .val (.int (Int32.ofNat k4)), .val (.int sp1), .val (.int sp2), .val (.int sp3), .val (.int sp4), .val (.int (Int32.ofNat j1)), .val (.int (Int32.ofNat j2)), .val (.int (Int32.ofNat j3)), .val (.int (Int32.ofNat j4)), .val (.int (Int32.ofNat jq)), .val (.int on1), .val (.int zJ15_0), .val (.int zJ17_0), .val (.int zJ19_0), .val (.ref a), .unset, .unset]) rfl q) ?_
        show Go _ _ _ _ _ _ _ (T21.setTop (mkF m 262 #[.val (.int x1), .val (.int x2), .val (.int x3), .val (.int x4), .val (.int x5), .val (.int (Int32.ofNat k1)), .val (.int (Int32.ofNat k2)), .val (.int (Int32.ofNat k3)), .val (.int (Int32.ofNat k4)), .val (.int sp1), .val (.int sp2), .val (.int sp3), .val (.int sp4), .val (.int (Int32.ofNat j1)), .val (.int (Int32.ofNat j2)), .val (.int (Int32.ofNat j3)), .val (.int (Int32.ofNat j4)), .val (.int (Int32.ofNat jq)), .val (.int on1), .val (.int zJ15_0), .val (.int zJ17_0), .val (.int zJ19_0), .val (.ref a), .unset, .unset] []))
        refine Go.of (fun _ q => XS.iload X21.here hx rfl (hb hby at_262) rfl q) ?_
        show Go _ _ _ _ _ _ _ (T21.setTop (mkF m 264 #[.val (.int x1), .val (.int x2), .val (.int x3), .val (.int x4), .val (.int x5), .val (.int (Int32.ofNat k1)), .val (.int (Int32.ofNat k2)), .val (.int (Int32.ofNat k3)), .val (.int (Int32.ofNat k4)), .val (.int sp1), .val (.int sp2), .val (.int sp3), .val (.int sp4), .val (.int (Int32.ofNat j1)), .val (.int (Int32.ofNat j2)), .val (.int (Int32.ofNat j3)), .val (.int (Int32.ofNat j4)), .val (.int (Int32.ofNat jq)), .val (.int on1), .val (.int zJ15_0), .val (.int zJ17_0), .val (.int zJ19_0), .val (.ref a), .unset, .unset] [(.int on1)]))
        have J25 : ∀ (TJ25 : State) (lJ25 : List Loc) (hJ25 : Heap) (yJ25_occupied : Int64) (zJ25_0 : Nat → Value), Stand p l e room_1 s m #[(.int x1), (.int x2), (.int x3), (.int x4), (.int x5)] below meth c TJ25 lJ25 6 91 → TJ25.heap = hJ25 → Fr n0 lJ25 → n0 ≤ hJ25.size → Keep h0 hJ25 [] → Old Z n0 hJ25 → Exa Z hJ25 a "com/example/tundra_ascent/tundraascent/rules/Display" → Fld Z hJ25 a "com/example/tundra_ascent/tundraascent/rules/Display" "pawns" "[Lcom/example/tundra_ascent/tundraascent/rules/Animal;" (.ref pw) → Fld Z hJ25 a "com/example/tundra_ascent/tundraascent/rules/Display" "occupied" "J" (.long yJ25_occupied) → AF Z hJ25 pw kp (.object "com/example/tundra_ascent/tundraascent/rules/Animal") 41 zJ25_0 → zJ25_0 = (if on1 = (0 : Int32) then (fun _ => .null) else (updV (fun _ => .null) (own_idx k1 sp1) (.ref (own_an j1 p0 p1 p2 p3 p4 p5)))) → Go p e below s room_1.cells room_1.slots (Q0 Z x1 x2 x3 x4 x5 p0 p1 p2 p3 p4 p5 q0 q1 q2 q3 q4 q5 q6 q7 q8 q9 q10 q11 fi kf h0 n0) (TJ25.setTop (mkF m 284 #[.val (.int x1), .val (.int x2), .val (.int x3), .val (.int x4), .val (.int x5), .val (.int (Int32.ofNat k1)), .val (.int (Int32.ofNat k2)), .val (.int (Int32.ofNat k3)), .val (.int (Int32.ofNat k4)), .val (.int sp1), .val (.int sp2), .val (.int sp3), .val (.int sp4), .val (.int (Int32.ofNat j1)), .val (.int (Int32.ofNat j2)), .val (.int (Int32.ofNat j3)), .val (.int (Int32.ofNat j4)), .val (.int (Int32.ofNat jq)), .val (.int on1), .val (.int zJ15_0), .val (.int zJ17_0), .val (.int zJ19_0), .val (.ref a), .unset, .unset] [])) := by
          intro TJ25 lJ25 hJ25 yJ25_occupied zJ25_0 XJ25 eJ25 NJ25 Zs Kp Od E_a F_a_pawns F_a_occupied A_pw hzJ25_0
          rw [show zJ25_0 = (own_put (fun _ => Value.null) on1 (own_idx k1 sp1) (own_an j1 p0 p1 p2 p3 p4 p5)) from hzJ25_0] at A_pw
          show Go _ _ _ _ _ _ _ (TJ25.setTop (mkF m 284 #[.val (.int x1), .val (.int x2), .val (.int x3), .val (.int x4), .val (.int x5), .val (.int (Int32.ofNat k1)), .val (.int (Int32.ofNat k2)), .val (.int (Int32.ofNat k3)), .val (.int (Int32.ofNat k4)), .val (.int sp1), .val (.int sp2), .val (.int sp3), .val (.int sp4), .val (.int (Int32.ofNat j1)), .val (.int (Int32.ofNat j2)), .val (.int (Int32.ofNat j3)), .val (.int (Int32.ofNat j4)), .val (.int (Int32.ofNat jq)), .val (.int on1), .val (.int zJ15_0), .val (.int zJ17_0), .val (.int zJ19_0), .val (.ref a), .unset, .unset] []))
          refine Go.of (fun _ q => XS.iload XJ25.here hx rfl (hb hby at_284) rfl q) ?_
          show Go _ _ _ _ _ _ _ (TJ25.setTop (mkF m 286 #[.val (.int x1), .val (.int x2), .val (.int x3), .val (.int x4), .val (.int x5), .val (.int (Int32.ofNat k1)), .val (.int (Int32.ofNat k2)), .val (.int (Int32.ofNat k3)), .val (.int (Int32.ofNat k4)), .val (.int sp1), .val (.int sp2), .val (.int sp3), .val (.int sp4), .val (.int (Int32.ofNat j1)), .val (.int (Int32.ofNat j2)), .val (.int (Int32.ofNat j3)), .val (.int (Int32.ofNat j4)), .val (.int (Int32.ofNat jq)), .val (.int on1), .val (.int zJ15_0), .val (.int zJ17_0), .val (.int zJ19_0), .val (.ref a), .unset, .unset] [(.int zJ15_0)]))
          have J29 : ∀ (TJ29 : State) (lJ29 : List Loc) (hJ29 : Heap) (yJ29_occupied : Int64) (zJ29_0 : Nat → Value), Stand p l e room_1 s m #[(.int x1), (.int x2), (.int x3), (.int x4), (.int x5)] below meth c TJ29 lJ29 6 91 → TJ29.heap = hJ29 → Fr n0 lJ29 → n0 ≤ hJ29.size → Keep h0 hJ29 [] → Old Z n0 hJ29 → Exa Z hJ29 a "com/example/tundra_ascent/tundraascent/rules/Display" → Fld Z hJ29 a "com/example/tundra_ascent/tundraascent/rules/Display" "pawns" "[Lcom/example/tundra_ascent/tundraascent/rules/Animal;" (.ref pw) → Fld Z hJ29 a "com/example/tundra_ascent/tundraascent/rules/Display" "occupied" "J" (.long yJ29_occupied) → AF Z hJ29 pw kp (.object "com/example/tundra_ascent/tundraascent/rules/Animal") 41 zJ29_0 → zJ29_0 = (if zJ15_0 = (0 : Int32) then (own_put (fun _ => Value.null) on1 (own_idx k1 sp1) (own_an j1 p0 p1 p2 p3 p4 p5)) else (updV (own_put (fun _ => Value.null) on1 (own_idx k1 sp1) (own_an j1 p0 p1 p2 p3 p4 p5)) (own_idx k2 sp2) (.ref (own_an j2 p0 p1 p2 p3 p4 p5)))) → Go p e below s room_1.cells room_1.slots (Q0 Z x1 x2 x3 x4 x5 p0 p1 p2 p3 p4 p5 q0 q1 q2 q3 q4 q5 q6 q7 q8 q9 q10 q11 fi kf h0 n0) (TJ29.setTop (mkF m 306 #[.val (.int x1), .val (.int x2), .val (.int x3), .val (.int x4), .val (.int x5), .val (.int (Int32.ofNat k1)), .val (.int (Int32.ofNat k2)), .val (.int (Int32.ofNat k3)), .val (.int (Int32.ofNat k4)), .val (.int sp1), .val (.int sp2), .val (.int sp3), .val (.int sp4), .val (.int (Int32.ofNat j1)), .val (.int (Int32.ofNat j2)), .val (.int (Int32.ofNat j3)), .val (.int (Int32.ofNat j4)), .val (.int (Int32.ofNat jq)), .val (.int on1), .val (.int zJ15_0), .val (.int zJ17_0), .val (.int zJ19_0), .val (.ref a), .unset, .unset] [])) := by
            intro TJ29 lJ29 hJ29 yJ29_occupied zJ29_0 XJ29 eJ29 NJ29 Zs Kp Od E_a F_a_pawns F_a_occupied A_pw hzJ29_0
            rw [show zJ29_0 = (own_put (own_put (fun _ => Value.null) on1 (own_idx k1 sp1) (own_an j1 p0 p1 p2 p3 p4 p5)) zJ15_0 (own_idx k2 sp2) (own_an j2 p0 p1 p2 p3 p4 p5)) from hzJ29_0] at A_pw
            show Go _ _ _ _ _ _ _ (TJ29.setTop (mkF m 306 #[.val (.int x1), .val (.int x2), .val (.int x3), .val (.int x4), .val (.int x5), .val (.int (Int32.ofNat k1)), .val (.int (Int32.ofNat k2)), .val (.int (Int32.ofNat k3)), .val (.int (Int32.ofNat k4)), .val (.int sp1), .val (.int sp2), .val (.int sp3), .val (.int sp4), .val (.int (Int32.ofNat j1)), .val (.int (Int32.ofNat j2)), .val (.int (Int32.ofNat j3)), .val (.int (Int32.ofNat j4)), .val (.int (Int32.ofNat jq)), .val (.int on1), .val (.int zJ15_0), .val (.int zJ17_0), .val (.int zJ19_0), .val (.ref a), .unset, .unset] []))
            refine Go.of (fun _ q => XS.iload XJ29.here hx rfl (hb hby at_306) rfl q) ?_
            show Go _ _ _ _ _ _ _ (TJ29.setTop (mkF m 308 #[.val (.int x1), .val (.int x2), .val (.int x3), .val (.int x4), .val (.int x5), .val (.int (Int32.ofNat k1)), .val (.int (Int32.ofNat k2)), .val (.int (Int32.ofNat k3)), .val (.int (Int32.ofNat k4)), .val (.int sp1), .val (.int sp2), .val (.int sp3), .val (.int sp4), .val (.int (Int32.ofNat j1)), .val (.int (Int32.ofNat j2)), .val (.int (Int32.ofNat j3)), .val (.int (Int32.ofNat j4)), .val (.int (Int32.ofNat jq)), .val (.int on1), .val (.int zJ15_0), .val (.int zJ17_0), .val (.int zJ19_0), .val (.ref a), .unset, .unset] [(.int zJ17_0)]))
            have J33 : ∀ (TJ33 : State) (lJ33 : List Loc) (hJ33 : Heap) (yJ33_occupied : Int64) (zJ33_0 : Nat → Value), Stand p l e room_1 s m #[(.int x1), (.int x2), (.int x3), (.int x4), (.int x5)] below meth c TJ33 lJ33 6 91 → TJ33.heap = hJ33 → Fr n0 lJ33 → n0 ≤ hJ33.size → Keep h0 hJ33 [] → Old Z n0 hJ33 → Exa Z hJ33 a "com/example/tundra_ascent/tundraascent/rules/Display" → Fld Z hJ33 a "com/example/tundra_ascent/tundraascent/rules/Display" "pawns" "[Lcom/example/tundra_ascent/tundraascent/rules/Animal;" (.ref pw) → Fld Z hJ33 a "com/example/tundra_ascent/tundraascent/rules/Display" "occupied" "J" (.long yJ33_occupied) → AF Z hJ33 pw kp (.object "com/example/tundra_ascent/tundraascent/rules/Animal") 41 zJ33_0 → zJ33_0 = (if zJ17_0 = (0 : Int32) then (own_put (own_put (fun _ => Value.null) on1 (own_idx k1 sp1) (own_an j1 p0 p1 p2 p3 p4 p5)) zJ15_0 (own_idx k2 sp2) (own_an j2 p0 p1 p2 p3 p4 p5)) else (updV (own_put (own_put (fun _ => Value.null) on1 (own_idx k1 sp1) (own_an j1 p0 p1 p2 p3 p4 p5)) zJ15_0 (own_idx k2 sp2) (own_an j2 p0 p1 p2 p3 p4 p5)) (own_idx k3 sp3) (.ref (own_an j3 p0 p1 p2 p3 p4 p5)))) → Go p e below s room_1.cells room_1.slots (Q0 Z x1 x2 x3 x4 x5 p0 p1 p2 p3 p4 p5 q0 q1 q2 q3 q4 q5 q6 q7 q8 q9 q10 q11 fi kf h0 n0) (TJ33.setTop (mkF m 328 #[.val (.int x1), .val (.int x2), .val (.int x3), .val (.int x4), .val (.int x5), .val (.int (Int32.ofNat k1)), .val (.int (Int32.ofNat k2)), .val (.int (Int32.ofNat k3)), .val (.int (Int32.ofNat k4)), .val (.int sp1), .val (.int sp2), .val (.int sp3), .val (.int sp4), .val (.int (Int32.ofNat j1)), .val (.int (Int32.ofNat j2)), .val (.int (Int32.ofNat j3)), .val (.int (Int32.ofNat j4)), .val (.int (Int32.ofNat jq)), .val (.int on1), .val (.int zJ15_0), .val (.int zJ17_0), .val (.int zJ19_0), .val (.ref a), .unset, .unset] [])) := by
              intro TJ33 lJ33 hJ33 yJ33_occupied zJ33_0 XJ33 eJ33 NJ33 Zs Kp Od E_a F_a_pawns F_a_occupied A_pw hzJ33_0
              rw [show zJ33_0 = (own_put (own_put (own_put (fun _ => Value.null) on1 (own_idx k1 sp1) (own_an j1 p0 p1 p2 p3 p4 p5)) zJ15_0 (own_idx k2 sp2) (own_an j2 p0 p1 p2 p3 p4 p5)) zJ17_0 (own_idx k3 sp3) (own_an j3 p0 p1 p2 p3 p4 p5)) from hzJ33_0] at A_pw
              show Go _ _ _ _ _ _ _ (TJ33.setTop (mkF m 328 #[.val (.int x1), .val (.int x2), .val (.int x3), .val (.int x4), .val (.int x5), .val (.int (Int32.ofNat k1)), .val (.int (Int32.ofNat k2)), .val (.int (Int32.ofNat k3)), .val (.int (Int32.ofNat k4)), .val (.int sp1), .val (.int sp2), .val (.int sp3), .val (.int sp4), .val (.int (Int32.ofNat j1)), .val (.int (Int32.ofNat j2)), .val (.int (Int32.ofNat j3)), .val (.int (Int32.ofNat j4)), .val (.int (Int32.ofNat jq)), .val (.int on1), .val (.int zJ15_0), .val (.int zJ17_0), .val (.int zJ19_0), .val (.ref a), .unset, .unset] []))
              refine Go.of (fun _ q => XS.iload XJ33.here hx rfl (hb hby at_328) rfl q) ?_
              show Go _ _ _ _ _ _ _ (TJ33.setTop (mkF m 330 #[.val (.int x1), .val (.int x2), .val (.int x3), .val (.int x4), .val (.int x5), .val (.int (Int32.ofNat k1)), .val (.int (Int32.ofNat k2)), .val (.int (Int32.ofNat k3)), .val (.int (Int32.ofNat k4)), .val (.int sp1), .val (.int sp2), .val (.int sp3), .val (.int sp4), .val (.int (Int32.ofNat j1)), .val (.int (Int32.ofNat j2)), .val (.int (Int32.ofNat j3)), .val (.int (Int32.ofNat j4)), .val (.int (Int32.ofNat jq)), .val (.int on1), .val (.int zJ15_0), .val (.int zJ17_0), .val (.int zJ19_0), .val (.ref a), .unset, .unset] [(.int zJ19_0)]))
              have J37 : ∀ (TJ37 : State) (lJ37 : List Loc) (hJ37 : Heap) (yJ37_occupied : Int64) (zJ37_0 : Nat → Value), Stand p l e room_1 s m #[(.int x1), (.int x2), (.int x3), (.int x4), (.int x5)] below meth c TJ37 lJ37 6 91 → TJ37.heap = hJ37 → Fr n0 lJ37 → n0 ≤ hJ37.size → Keep h0 hJ37 [] → Old Z n0 hJ37 → Exa Z hJ37 a "com/example/tundra_ascent/tundraascent/rules/Display" → Fld Z hJ37 a "com/example/tundra_ascent/tundraascent/rules/Display" "pawns" "[Lcom/example/tundra_ascent/tundraascent/rules/Animal;" (.ref pw) → Fld Z hJ37 a "com/example/tundra_ascent/tundraascent/rules/Display" "occupied" "J" (.long yJ37_occupied) → AF Z hJ37 pw kp (.object "com/example/tundra_ascent/tundraascent/rules/Animal") 41 zJ37_0 → zJ37_0 = (if zJ19_0 = (0 : Int32) then (own_put (own_put (own_put (fun _ => Value.null) on1 (own_idx k1 sp1) (own_an j1 p0 p1 p2 p3 p4 p5)) zJ15_0 (own_idx k2 sp2) (own_an j2 p0 p1 p2 p3 p4 p5)) zJ17_0 (own_idx k3 sp3) (own_an j3 p0 p1 p2 p3 p4 p5)) else (updV (own_put (own_put (own_put (fun _ => Value.null) on1 (own_idx k1 sp1) (own_an j1 p0 p1 p2 p3 p4 p5)) zJ15_0 (own_idx k2 sp2) (own_an j2 p0 p1 p2 p3 p4 p5)) zJ17_0 (own_idx k3 sp3) (own_an j3 p0 p1 p2 p3 p4 p5)) (own_idx k4 sp4) (.ref (own_an j4 p0 p1 p2 p3 p4 p5)))) → Go p e below s room_1.cells room_1.slots (Q0 Z x1 x2 x3 x4 x5 p0 p1 p2 p3 p4 p5 q0 q1 q2 q3 q4 q5 q6 q7 q8 q9 q10 q11 fi kf h0 n0) (TJ37.setTop (mkF m 350 #[.val (.int x1), .val (.int x2), .val (.int x3), .val (.int x4), .val (.int x5), .val (.int (Int32.ofNat k1)), .val (.int (Int32.ofNat k2)), .val (.int (Int32.ofNat k3)), .val (.int (Int32.ofNat k4)), .val (.int sp1), .val (.int sp2), .val (.int sp3), .val (.int sp4), .val (.int (Int32.ofNat j1)), .val (.int (Int32.ofNat j2)), .val (.int (Int32.ofNat j3)), .val (.int (Int32.ofNat j4)), .val (.int (Int32.ofNat jq)), .val (.int on1), .val (.int zJ15_0), .val (.int zJ17_0), .val (.int zJ19_0), .val (.ref a), .unset, .unset] [])) := by
                intro TJ37 lJ37 hJ37 yJ37_occupied zJ37_0 XJ37 eJ37 NJ37 Zs Kp Od E_a F_a_pawns F_a_occupied A_pw hzJ37_0
                rw [show zJ37_0 = (own_put (own_put (own_put (own_put (fun _ => Value.null) on1 (own_idx k1 sp1) (own_an j1 p0 p1 p2 p3 p4 p5)) zJ15_0 (own_idx k2 sp2) (own_an j2 p0 p1 p2 p3 p4 p5)) zJ17_0 (own_idx k3 sp3) (own_an j3 p0 p1 p2 p3 p4 p5)) zJ19_0 (own_idx k4 sp4) (own_an j4 p0 p1 p2 p3 p4 p5)) from hzJ37_0] at A_pw
                show Go _ _ _ _ _ _ _ (TJ37.setTop (mkF m 350 #[.val (.int x1), .val (.int x2), .val (.int x3), .val (.int x4), .val (.int x5), .val (.int (Int32.ofNat k1)), .val (.int (Int32.ofNat k2)), .val (.int (Int32.ofNat k3)), .val (.int (Int32.ofNat k4)), .val (.int sp1), .val (.int sp2), .val (.int sp3), .val (.int sp4), .val (.int (Int32.ofNat j1)), .val (.int (Int32.ofNat j2)), .val (.int (Int32.ofNat j3)), .val (.int (Int32.ofNat j4)), .val (.int (Int32.ofNat jq)), .val (.int on1), .val (.int zJ15_0), .val (.int zJ17_0), .val (.int zJ19_0), .val (.ref a), .unset, .unset] []))
                refine Go.of (fun _ q => XS.iload XJ37.here hx rfl (hb hby at_350) rfl q) ?_
                show Go _ _ _ _ _ _ _ (TJ37.setTop (mkF m 352 #[.val (.int x1), .val (.int x2), .val (.int x3), .val (.int x4), .val (.int x5), .val (.int (Int32.ofNat k1)), .val (.int (Int32.ofNat k2)), .val (.int (Int32.ofNat k3)), .val (.int (Int32.ofNat k4)), .val (.int sp1), .val (.int sp2), .val (.int sp3), .val (.int sp4), .val (.int (Int32.ofNat j1)), .val (.int (Int32.ofNat j2)), .val (.int (Int32.ofNat j3)), .val (.int (Int32.ofNat j4)), .val (.int (Int32.ofNat jq)), .val (.int on1), .val (.int zJ15_0), .val (.int zJ17_0), .val (.int zJ19_0), .val (.ref a), .unset, .unset] [(.int on1)]))
                refine Go.of (fun _ q => XS.iload XJ37.here hx rfl (hb hby at_352) rfl q) ?_
                show Go _ _ _ _ _ _ _ (TJ37.setTop (mkF m 354 #[.val (.int x1), .val (.int x2), .val (.int x3), .val (.int x4), .val (.int x5), .val (.int (Int32.ofNat k1)), .val (.int (Int32.ofNat k2)), .val (.int (Int32.ofNat k3)), .val (.int (Int32.ofNat k4)), .val (.int sp1), .val (.int sp2), .val (.int sp3), .val (.int sp4), .val (.int (Int32.ofNat j1)), .val (.int (Int32.ofNat j2)), .val (.int (Int32.ofNat j3)), .val (.int (Int32.ofNat j4)), .val (.int (Int32.ofNat jq)), .val (.int on1), .val (.int zJ15_0), .val (.int zJ17_0), .val (.int zJ19_0), .val (.ref a), .unset, .unset] [(.int (Int32.ofNat j1)), (.int on1)]))
                refine Go.of (fun _ q => XS.iload XJ37.here hx rfl (hb hby at_354) rfl q) ?_
                show Go _ _ _ _ _ _ _ (TJ37.setTop (mkF m 356 #[.val (.int x1), .val (.int x2), .val (.int x3), .val (.int x4), .val (.int x5), .val (.int (Int32.ofNat k1)), .val (.int (Int32.ofNat k2)), .val (.int (Int32.ofNat k3)), .val (.int (Int32.ofNat k4)), .val (.int sp1), .val (.int sp2), .val (.int sp3), .val (.int sp4), .val (.int (Int32.ofNat j1)), .val (.int (Int32.ofNat j2)), .val (.int (Int32.ofNat j3)), .val (.int (Int32.ofNat j4)), .val (.int (Int32.ofNat jq)), .val (.int on1), .val (.int zJ15_0), .val (.int zJ17_0), .val (.int zJ19_0), .val (.ref a), .unset, .unset] [(.int (Int32.ofNat jq)), (.int (Int32.ofNat j1)), (.int on1)]))
                refine Go.static XJ37 hx hZ (y := (⟨"com/example/tundra_ascent/tundraascent/rules/DisplayPawnsOfPinLaw", "one", "(ZII)I"⟩ : MethodName)) (argsL := [(.int on1), (.int (Int32.ofNat j1)), (.int (Int32.ofNat jq))]) hown (hw _ (List.mem_of_getElem? (i := 32) rfl)) (hw _ (List.mem_of_getElem? (i := 33) rfl)) (hw _ (List.mem_of_getElem? (i := 2) rfl)) (hw _ (List.mem_of_getElem? (i := 34) rfl)) (by decide) 0 eJ37 (rm8 l Z a0 hw on1 (Int32.ofNat j1) (Int32.ofNat jq) hJ37 n0 Zs ) (by decide) (by decide) (by decide) (by decide) (g := (mkF m 356 #[.val (.int x1), .val (.int x2), .val (.int x3), .val (.int x4), .val (.int x5), .val (.int (Int32.ofNat k1)), .val (.int (Int32.ofNat k2)), .val (.int (Int32.ofNat k3)), .val (.int (Int32.ofNat k4)), .val (.int sp1), .val (.int sp2), .val (.int sp3), .val (.int sp4), .val (.int (Int32.ofNat j1)), .val (.int (Int32.ofNat j2)), .val (.int (Int32.ofNat j3)), .val (.int (Int32.ofNat j4)), .val (.int (Int32.ofNat jq)), .val (.int on1), .val (.int zJ15_0), .val (.int zJ17_0), .val (.int zJ19_0), .val (.ref a), .unset, .unset] [(.int (Int32.ofNat jq)), (.int (Int32.ofNat j1)), (.int on1)])) rfl (by rw [hml]; rfl) (rest := []) (lenOf pd11 rfl) rfl (by show 2 * 0 + _ ≤ _; exact Nat.le_of_eq rfl) (hb hby at_356) ?_
                intro T38 v38 L38 X38 q38
                obtain ⟨rfl, Nq38, e38⟩ := q38
                have N38 := Fr.app NJ37 Nq38
                show Go _ _ _ _ _ _ _ (T38.setTop (mkF m 359 #[.val (.int x1), .val (.int x2), .val (.int x3), .val (.int x4), .val (.int x5), .val (.int (Int32.ofNat k1)), .val (.int (Int32.ofNat k2)), .val (.int (Int32.ofNat k3)), .val (.int (Int32.ofNat k4)), .val (.int sp1), .val (.int sp2), .val (.int sp3), .val (.int sp4), .val (.int (Int32.ofNat j1)), .val (.int (Int32.ofNat j2)), .val (.int (Int32.ofNat j3)), .val (.int (Int32.ofNat j4)), .val (.int (Int32.ofNat jq)), .val (.int on1), .val (.int zJ15_0), .val (.int zJ17_0), .val (.int zJ19_0), .val (.ref a), .unset, .unset] [(.int (own_one on1 (Int32.ofNat j1) (Int32.ofNat jq)))]))
                refine Go.of (fun _ q => XS.iload X38.here hx rfl (hb hby at_359) rfl q) ?_
                show Go _ _ _ _ _ _ _ (T38.setTop (mkF m 361 #[.val (.int x1), .val (.int x2), .val (.int x3), .val (.int x4), .val (.int x5), .val (.int (Int32.ofNat k1)), .val (.int (Int32.ofNat k2)), .val (.int (Int32.ofNat k3)), .val (.int (Int32.ofNat k4)), .val (.int sp1), .val (.int sp2), .val (.int sp3), .val (.int sp4), .val (.int (Int32.ofNat j1)), .val (.int (Int32.ofNat j2)), .val (.int (Int32.ofNat j3)), .val (.int (Int32.ofNat j4)), .val (.int (Int32.ofNat jq)), .val (.int on1), .val (.int zJ15_0), .val (.int zJ17_0), .val (.int zJ19_0), .val (.ref a), .unset, .unset] [(.int zJ15_0), (.int (own_one on1 (Int32.ofNat j1) (Int32.ofNat jq)))]))
                refine Go.of (fun _ q => XS.iload X38.here hx rfl (hb hby at_361) rfl q) ?_
                show Go _ _ _ _ _ _ _ (T38.setTop (mkF m 363 #[.val (.int x1), .val (.int x2), .val (.int x3), .val (.int x4), .val (.int x5), .val (.int (Int32.ofNat k1)), .val (.int (Int32.ofNat k2)), .val (.int (Int32.ofNat k3)), .val (.int (Int32.ofNat k4)), .val (.int sp1), .val (.int sp2), .val (.int sp3), .val (.int sp4), .val (.int (Int32.ofNat j1)), .val (.int (Int32.ofNat j2)), .val (.int (Int32.ofNat j3)), .val (.int (Int32.ofNat j4)), .val (.int (Int32.ofNat jq)), .val (.int on1), .val (.int zJ15_0), .val (.int zJ17_0), .val (.int zJ19_0), .val (.ref a), .unset, .unset] [(.int (Int32.ofNat j2)), (.int zJ15_0), (.int (own_one on1 (Int32.ofNat j1) (Int32.ofNat jq)))]))
                refine Go.of (fun _ q => XS.iload X38.here hx rfl (hb hby at_363) rfl q) ?_
                show Go _ _ _ _ _ _ _ (T38.setTop (mkF m 365 #[.val (.int x1), .val (.int x2), .val (.int x3), .val (.int x4), .val (.int x5), .val (.int (Int32.ofNat k1)), .val (.int (Int32.ofNat k2)), .val (.int (Int32.ofNat k3)), .val (.int (Int32.ofNat k4)), .val (.int sp1), .val (.int sp2), .val (.int sp3), .val (.int sp4), .val (.int (Int32.ofNat j1)), .val (.int (Int32.ofNat j2)), .val (.int (Int32.ofNat j3)), .val (.int (Int32.ofNat j4)), .val (.int (Int32.ofNat jq)), .val (.int on1), .val (.int zJ15_0), .val (.int zJ17_0), .val (.int zJ19_0), .val (.ref a), .unset, .unset] [(.int (Int32.ofNat jq)), (.int (Int32.ofNat j2)), (.int zJ15_0), (.int (own_one on1 (Int32.ofNat j1) (Int32.ofNat jq)))]))
                refine Go.static X38 hx hZ (y := (⟨"com/example/tundra_ascent/tundraascent/rules/DisplayPawnsOfPinLaw", "one", "(ZII)I"⟩ : MethodName)) (argsL := [(.int zJ15_0), (.int (Int32.ofNat j2)), (.int (Int32.ofNat jq))]) hown (hw _ (List.mem_of_getElem? (i := 32) rfl)) (hw _ (List.mem_of_getElem? (i := 33) rfl)) (hw _ (List.mem_of_getElem? (i := 2) rfl)) (hw _ (List.mem_of_getElem? (i := 34) rfl)) (by decide) 1 e38 (rm8 l Z a0 hw zJ15_0 (Int32.ofNat j2) (Int32.ofNat jq) hJ37 n0 Zs ) (by decide) (by decide) (by decide) (by decide) (g := (mkF m 365 #[.val (.int x1), .val (.int x2), .val (.int x3), .val (.int x4), .val (.int x5), .val (.int (Int32.ofNat k1)), .val (.int (Int32.ofNat k2)), .val (.int (Int32.ofNat k3)), .val (.int (Int32.ofNat k4)), .val (.int sp1), .val (.int sp2), .val (.int sp3), .val (.int sp4), .val (.int (Int32.ofNat j1)), .val (.int (Int32.ofNat j2)), .val (.int (Int32.ofNat j3)), .val (.int (Int32.ofNat j4)), .val (.int (Int32.ofNat jq)), .val (.int on1), .val (.int zJ15_0), .val (.int zJ17_0), .val (.int zJ19_0), .val (.ref a), .unset, .unset] [(.int (Int32.ofNat jq)), (.int (Int32.ofNat j2)), (.int zJ15_0), (.int (own_one on1 (Int32.ofNat j1) (Int32.ofNat jq)))])) rfl (by rw [hml]; rfl) (rest := [(.int (own_one on1 (Int32.ofNat j1) (Int32.ofNat jq)))]) (lenOf pd11 rfl) rfl (by show 2 * 0 + _ ≤ _; exact Nat.le_of_eq rfl) (hb hby at_365) ?_
                intro T39 v39 L39 X39 q39
                obtain ⟨rfl, Nq39, e39⟩ := q39
                have N39 := Fr.app N38 Nq39
                show Go _ _ _ _ _ _ _ (T39.setTop (mkF m 368 #[.val (.int x1), .val (.int x2), .val (.int x3), .val (.int x4), .val (.int x5), .val (.int (Int32.ofNat k1)), .val (.int (Int32.ofNat k2)), .val (.int (Int32.ofNat k3)), .val (.int (Int32.ofNat k4)), .val (.int sp1), .val (.int sp2), .val (.int sp3), .val (.int sp4), .val (.int (Int32.ofNat j1)), .val (.int (Int32.ofNat j2)), .val (.int (Int32.ofNat j3)), .val (.int (Int32.ofNat j4)), .val (.int (Int32.ofNat jq)), .val (.int on1), .val (.int zJ15_0), .val (.int zJ17_0), .val (.int zJ19_0), .val (.ref a), .unset, .unset] [(.int (own_one zJ15_0 (Int32.ofNat j2) (Int32.ofNat jq))), (.int (own_one on1 (Int32.ofNat j1) (Int32.ofNat jq)))]))
                refine Go.of (fun _ q => XS.iadd X39.here hx rfl (hb hby at_368) rfl q) ?_
                show Go _ _ _ _ _ _ _ (T39.setTop (mkF m 369 #[.val (.int x1), .val (.int x2), .val (.int x3), .val (.int x4), .val (.int x5), .val (.int (Int32.ofNat k1)), .val (.int (Int32.ofNat k2)), .val (.int (Int32.ofNat k3)), .val (.int (Int32.ofNat k4)), .val (.int sp1), .val (.int sp2), .val (.int sp3), .val (.int sp4), .val (.int (Int32.ofNat j1)), .val (.int (Int32.ofNat j2)), .val (.int (Int32.ofNat j3)), .val (.int (Int32.ofNat j4)), .val (.int (Int32.ofNat jq)), .val (.int on1), .val (.int zJ15_0), .val (.int zJ17_0), .val (.int zJ19_0), .val (.ref a), .unset, .unset] [(.int ((own_one on1 (Int32.ofNat j1) (Int32.ofNat jq)) + (own_one zJ15_0 (Int32.ofNat j2) (Int32.ofNat jq))))]))
                refine Go.of (fun _ q => XS.iload X39.here hx rfl (hb hby at_369) rfl q) ?_
                show Go _ _ _ _ _ _ _ (T39.setTop (mkF m 371 #[.val (.int x1), .val (.int x2), .val (.int x3), .val (.int x4), .val (.int x5), .val (.int (Int32.ofNat k1)), .val (.int (Int32.ofNat k2)), .val (.int (Int32.ofNat k3)), .val (.int (Int32.ofNat k4)), .val (.int sp1), .val (.int sp2), .val (.int sp3), .val (.int sp4), .val (.int (Int32.ofNat j1)), .val (.int (Int32.ofNat j2)), .val (.int (Int32.ofNat j3)), .val (.int (Int32.ofNat j4)), .val (.int (Int32.ofNat jq)), .val (.int on1), .val (.int zJ15_0), .val (.int zJ17_0), .val (.int zJ19_0), .val (.ref a), .unset, .unset] [(.int zJ17_0), (.int ((own_one on1 (Int32.ofNat j1) (Int32.ofNat jq)) + (own_one zJ15_0 (Int32.ofNat j2) (Int32.ofNat jq))))]))
                refine Go.of (fun _ q => XS.iload X39.here hx rfl (hb hby at_371) rfl q) ?_
                show Go _ _ _ _ _ _ _ (T39.setTop (mkF m 373 #[.val (.int x1), .val (.int x2), .val (.int x3), .val (.int x4), .val (.int x5), .val (.int (Int32.ofNat k1)), .val (.int (Int32.ofNat k2)), .val (.int (Int32.ofNat k3)), .val (.int (Int32.ofNat k4)), .val (.int sp1), .val (.int sp2), .val (.int sp3), .val (.int sp4), .val (.int (Int32.ofNat j1)), .val (.int (Int32.ofNat j2)), .val (.int (Int32.ofNat j3)), .val (.int (Int32.ofNat j4)), .val (.int (Int32.ofNat jq)), .val (.int on1), .val (.int zJ15_0), .val (.int zJ17_0), .val (.int zJ19_0), .val (.ref a), .unset, .unset] [(.int (Int32.ofNat j3)), (.int zJ17_0), (.int ((own_one on1 (Int32.ofNat j1) (Int32.ofNat jq)) + (own_one zJ15_0 (Int32.ofNat j2) (Int32.ofNat jq))))]))
                refine Go.of (fun _ q => XS.iload X39.here hx rfl (hb hby at_373) rfl q) ?_
                show Go _ _ _ _ _ _ _ (T39.setTop (mkF m 375 #[.val (.int x1), .val (.int x2), .val (.int x3), .val (.int x4), .val (.int x5), .val (.int (Int32.ofNat k1)), .val (.int (Int32.ofNat k2)), .val (.int (Int32.ofNat k3)), .val (.int (Int32.ofNat k4)), .val (.int sp1), .val (.int sp2), .val (.int sp3), .val (.int sp4), .val (.int (Int32.ofNat j1)), .val (.int (Int32.ofNat j2)), .val (.int (Int32.ofNat j3)), .val (.int (Int32.ofNat j4)), .val (.int (Int32.ofNat jq)), .val (.int on1), .val (.int zJ15_0), .val (.int zJ17_0), .val (.int zJ19_0), .val (.ref a), .unset, .unset] [(.int (Int32.ofNat jq)), (.int (Int32.ofNat j3)), (.int zJ17_0), (.int ((own_one on1 (Int32.ofNat j1) (Int32.ofNat jq)) + (own_one zJ15_0 (Int32.ofNat j2) (Int32.ofNat jq))))]))
                refine Go.static X39 hx hZ (y := (⟨"com/example/tundra_ascent/tundraascent/rules/DisplayPawnsOfPinLaw", "one", "(ZII)I"⟩ : MethodName)) (argsL := [(.int zJ17_0), (.int (Int32.ofNat j3)), (.int (Int32.ofNat jq))]) hown (hw _ (List.mem_of_getElem? (i := 32) rfl)) (hw _ (List.mem_of_getElem? (i := 33) rfl)) (hw _ (List.mem_of_getElem? (i := 2) rfl)) (hw _ (List.mem_of_getElem? (i := 34) rfl)) (by decide) 1 e39 (rm8 l Z a0 hw zJ17_0 (Int32.ofNat j3) (Int32.ofNat jq) hJ37 n0 Zs ) (by decide) (by decide) (by decide) (by decide) (g := (mkF m 375 #[.val (.int x1), .val (.int x2), .val (.int x3), .val (.int x4), .val (.int x5), .val (.int (Int32.ofNat k1)), .val (.int (Int32.ofNat k2)), .val (.int (Int32.ofNat k3)), .val (.int (Int32.ofNat k4)), .val (.int sp1), .val (.int sp2), .val (.int sp3), .val (.int sp4), .val (.int (Int32.ofNat j1)), .val (.int (Int32.ofNat j2)), .val (.int (Int32.ofNat j3)), .val (.int (Int32.ofNat j4)), .val (.int (Int32.ofNat jq)), .val (.int on1), .val (.int zJ15_0), .val (.int zJ17_0), .val (.int zJ19_0), .val (.ref a), .unset, .unset] [(.int (Int32.ofNat jq)), (.int (Int32.ofNat j3)), (.int zJ17_0), (.int ((own_one on1 (Int32.ofNat j1) (Int32.ofNat jq)) + (own_one zJ15_0 (Int32.ofNat j2) (Int32.ofNat jq))))])) rfl (by rw [hml]; rfl) (rest := [(.int ((own_one on1 (Int32.ofNat j1) (Int32.ofNat jq)) + (own_one zJ15_0 (Int32.ofNat j2) (Int32.ofNat jq))))]) (lenOf pd11 rfl) rfl (by show 2 * 0 + _ ≤ _; exact Nat.le_of_eq rfl) (hb hby at_375) ?_
                intro T40 v40 L40 X40 q40
                obtain ⟨rfl, Nq40, e40⟩ := q40
                have N40 := Fr.app N39 Nq40
                show Go _ _ _ _ _ _ _ (T40.setTop (mkF m 378 #[.val (.int x1), .val (.int x2), .val (.int x3), .val (.int x4), .val (.int x5), .val (.int (Int32.ofNat k1)), .val (.int (Int32.ofNat k2)), .val (.int (Int32.ofNat k3)), .val (.int (Int32.ofNat k4)), .val (.int sp1), .val (.int sp2), .val (.int sp3), .val (.int sp4), .val (.int (Int32.ofNat j1)), .val (.int (Int32.ofNat j2)), .val (.int (Int32.ofNat j3)), .val (.int (Int32.ofNat j4)), .val (.int (Int32.ofNat jq)), .val (.int on1), .val (.int zJ15_0), .val (.int zJ17_0), .val (.int zJ19_0), .val (.ref a), .unset, .unset] [(.int (own_one zJ17_0 (Int32.ofNat j3) (Int32.ofNat jq))), (.int ((own_one on1 (Int32.ofNat j1) (Int32.ofNat jq)) + (own_one zJ15_0 (Int32.ofNat j2) (Int32.ofNat jq))))]))
                refine Go.of (fun _ q => XS.iadd X40.here hx rfl (hb hby at_378) rfl q) ?_
                show Go _ _ _ _ _ _ _ (T40.setTop (mkF m 379 #[.val (.int x1), .val (.int x2), .val (.int x3), .val (.int x4), .val (.int x5), .val (.int (Int32.ofNat k1)), .val (.int (Int32.ofNat k2)), .val (.int (Int32.ofNat k3)), .val (.int (Int32.ofNat k4)), .val (.int sp1), .val (.int sp2), .val (.int sp3), .val (.int sp4), .val (.int (Int32.ofNat j1)), .val (.int (Int32.ofNat j2)), .val (.int (Int32.ofNat j3)), .val (.int (Int32.ofNat j4)), .val (.int (Int32.ofNat jq)), .val (.int on1), .val (.int zJ15_0), .val (.int zJ17_0), .val (.int zJ19_0), .val (.ref a), .unset, .unset] [(.int (((own_one on1 (Int32.ofNat j1) (Int32.ofNat jq)) + (own_one zJ15_0 (Int32.ofNat j2) (Int32.ofNat jq))) + (own_one zJ17_0 (Int32.ofNat j3) (Int32.ofNat jq))))]))
                refine Go.of (fun _ q => XS.iload X40.here hx rfl (hb hby at_379) rfl q) ?_
                show Go _ _ _ _ _ _ _ (T40.setTop (mkF m 381 #[.val (.int x1), .val (.int x2), .val (.int x3), .val (.int x4), .val (.int x5), .val (.int (Int32.ofNat k1)), .val (.int (Int32.ofNat k2)), .val (.int (Int32.ofNat k3)), .val (.int (Int32.ofNat k4)), .val (.int sp1), .val (.int sp2), .val (.int sp3), .val (.int sp4), .val (.int (Int32.ofNat j1)), .val (.int (Int32.ofNat j2)), .val (.int (Int32.ofNat j3)), .val (.int (Int32.ofNat j4)), .val (.int (Int32.ofNat jq)), .val (.int on1), .val (.int zJ15_0), .val (.int zJ17_0), .val (.int zJ19_0), .val (.ref a), .unset, .unset] [(.int zJ19_0), (.int (((own_one on1 (Int32.ofNat j1) (Int32.ofNat jq)) + (own_one zJ15_0 (Int32.ofNat j2) (Int32.ofNat jq))) + (own_one zJ17_0 (Int32.ofNat j3) (Int32.ofNat jq))))]))
                refine Go.of (fun _ q => XS.iload X40.here hx rfl (hb hby at_381) rfl q) ?_
                show Go _ _ _ _ _ _ _ (T40.setTop (mkF m 383 #[.val (.int x1), .val (.int x2), .val (.int x3), .val (.int x4), .val (.int x5), .val (.int (Int32.ofNat k1)), .val (.int (Int32.ofNat k2)), .val (.int (Int32.ofNat k3)), .val (.int (Int32.ofNat k4)), .val (.int sp1), .val (.int sp2), .val (.int sp3), .val (.int sp4), .val (.int (Int32.ofNat j1)), .val (.int (Int32.ofNat j2)), .val (.int (Int32.ofNat j3)), .val (.int (Int32.ofNat j4)), .val (.int (Int32.ofNat jq)), .val (.int on1), .val (.int zJ15_0), .val (.int zJ17_0), .val (.int zJ19_0), .val (.ref a), .unset, .unset] [(.int (Int32.ofNat j4)), (.int zJ19_0), (.int (((own_one on1 (Int32.ofNat j1) (Int32.ofNat jq)) + (own_one zJ15_0 (Int32.ofNat j2) (Int32.ofNat jq))) + (own_one zJ17_0 (Int32.ofNat j3) (Int32.ofNat jq))))]))
                refine Go.of (fun _ q => XS.iload X40.here hx rfl (hb hby at_383) rfl q) ?_
                show Go _ _ _ _ _ _ _ (T40.setTop (mkF m 385 #[.val (.int x1), .val (.int x2), .val (.int x3), .val (.int x4), .val (.int x5), .val (.int (Int32.ofNat k1)), .val (.int (Int32.ofNat k2)), .val (.int (Int32.ofNat k3)), .val (.int (Int32.ofNat k4)), .val (.int sp1), .val (.int sp2), .val (.int sp3), .val (.int sp4), .val (.int (Int32.ofNat j1)), .val (.int (Int32.ofNat j2)), .val (.int (Int32.ofNat j3)), .val (.int (Int32.ofNat j4)), .val (.int (Int32.ofNat jq)), .val (.int on1), .val (.int zJ15_0), .val (.int zJ17_0), .val (.int zJ19_0), .val (.ref a), .unset, .unset] [(.int (Int32.ofNat jq)), (.int (Int32.ofNat j4)), (.int zJ19_0), (.int (((own_one on1 (Int32.ofNat j1) (Int32.ofNat jq)) + (own_one zJ15_0 (Int32.ofNat j2) (Int32.ofNat jq))) + (own_one zJ17_0 (Int32.ofNat j3) (Int32.ofNat jq))))]))
                refine Go.static X40 hx hZ (y := (⟨"com/example/tundra_ascent/tundraascent/rules/DisplayPawnsOfPinLaw", "one", "(ZII)I"⟩ : MethodName)) (argsL := [(.int zJ19_0), (.int (Int32.ofNat j4)), (.int (Int32.ofNat jq))]) hown (hw _ (List.mem_of_getElem? (i := 32) rfl)) (hw _ (List.mem_of_getElem? (i := 33) rfl)) (hw _ (List.mem_of_getElem? (i := 2) rfl)) (hw _ (List.mem_of_getElem? (i := 34) rfl)) (by decide) 1 e40 (rm8 l Z a0 hw zJ19_0 (Int32.ofNat j4) (Int32.ofNat jq) hJ37 n0 Zs ) (by decide) (by decide) (by decide) (by decide) (g := (mkF m 385 #[.val (.int x1), .val (.int x2), .val (.int x3), .val (.int x4), .val (.int x5), .val (.int (Int32.ofNat k1)), .val (.int (Int32.ofNat k2)), .val (.int (Int32.ofNat k3)), .val (.int (Int32.ofNat k4)), .val (.int sp1), .val (.int sp2), .val (.int sp3), .val (.int sp4), .val (.int (Int32.ofNat j1)), .val (.int (Int32.ofNat j2)), .val (.int (Int32.ofNat j3)), .val (.int (Int32.ofNat j4)), .val (.int (Int32.ofNat jq)), .val (.int on1), .val (.int zJ15_0), .val (.int zJ17_0), .val (.int zJ19_0), .val (.ref a), .unset, .unset] [(.int (Int32.ofNat jq)), (.int (Int32.ofNat j4)), (.int zJ19_0), (.int (((own_one on1 (Int32.ofNat j1) (Int32.ofNat jq)) + (own_one zJ15_0 (Int32.ofNat j2) (Int32.ofNat jq))) + (own_one zJ17_0 (Int32.ofNat j3) (Int32.ofNat jq))))])) rfl (by rw [hml]; rfl) (rest := [(.int (((own_one on1 (Int32.ofNat j1) (Int32.ofNat jq)) + (own_one zJ15_0 (Int32.ofNat j2) (Int32.ofNat jq))) + (own_one zJ17_0 (Int32.ofNat j3) (Int32.ofNat jq))))]) (lenOf pd11 rfl) rfl (by show 2 * 0 + _ ≤ _; exact Nat.le_of_eq rfl) (hb hby at_385) ?_
                intro T41 v41 L41 X41 q41
                obtain ⟨rfl, Nq41, e41⟩ := q41
                have N41 := Fr.app N40 Nq41
                show Go _ _ _ _ _ _ _ (T41.setTop (mkF m 388 #[.val (.int x1), .val (.int x2), .val (.int x3), .val (.int x4), .val (.int x5), .val (.int (Int32.ofNat k1)), .val (.int (Int32.ofNat k2)), .val (.int (Int32.ofNat k3)), .val (.int (Int32.ofNat k4)), .val (.int sp1), .val (.int sp2), .val (.int sp3), .val (.int sp4), .val (.int (Int32.ofNat j1)), .val (.int (Int32.ofNat j2)), .val (.int (Int32.ofNat j3)), .val (.int (Int32.ofNat j4)), .val (.int (Int32.ofNat jq)), .val (.int on1), .val (.int zJ15_0), .val (.int zJ17_0), .val (.int zJ19_0), .val (.ref a), .unset, .unset] [(.int (own_one zJ19_0 (Int32.ofNat j4) (Int32.ofNat jq))), (.int (((own_one on1 (Int32.ofNat j1) (Int32.ofNat jq)) + (own_one zJ15_0 (Int32.ofNat j2) (Int32.ofNat jq))) + (own_one zJ17_0 (Int32.ofNat j3) (Int32.ofNat jq))))]))
                refine Go.of (fun _ q => XS.iadd X41.here hx rfl (hb hby at_388) rfl q) ?_
                show Go _ _ _ _ _ _ _ (T41.setTop (mkF m 389 #[.val (.int x1), .val (.int x2), .val (.int x3), .val (.int x4), .val (.int x5), .val (.int (Int32.ofNat k1)), .val (.int (Int32.ofNat k2)), .val (.int (Int32.ofNat k3)), .val (.int (Int32.ofNat k4)), .val (.int sp1), .val (.int sp2), .val (.int sp3), .val (.int sp4), .val (.int (Int32.ofNat j1)), .val (.int (Int32.ofNat j2)), .val (.int (Int32.ofNat j3)), .val (.int (Int32.ofNat j4)), .val (.int (Int32.ofNat jq)), .val (.int on1), .val (.int zJ15_0), .val (.int zJ17_0), .val (.int zJ19_0), .val (.ref a), .unset, .unset] [(.int ((((own_one on1 (Int32.ofNat j1) (Int32.ofNat jq)) + (own_one zJ15_0 (Int32.ofNat j2) (Int32.ofNat jq))) + (own_one zJ17_0 (Int32.ofNat j3) (Int32.ofNat jq))) + (own_one zJ19_0 (Int32.ofNat j4) (Int32.ofNat jq))))]))
                refine Go.of (fun _ q => XS.istore X41.here hx rfl (hb hby at_389) rfl (l' := #[.val (.int x1), .val (.int x2), .val (.int x3), .val (.int x4), .val (.int x5), .val (.int (Int32.ofNat k1)), .val (.int (Int32.ofNat k2)), .val (.int (Int32.ofNat k3)), .val (.int (Int32.ofNat k4)), .val (.int sp1), .val (.int sp2), .val (.int sp3), .val (.int sp4), .val (.int (Int32.ofNat j1)), .val (.int (Int32.ofNat j2)), .val (.int (Int32.ofNat j3)), .val (.int (Int32.ofNat j4)), .val (.int (Int32.ofNat jq)), .val (.int on1), .val (.int zJ15_0), .val (.int zJ17_0), .val (.int zJ19_0), .val (.ref a), .val (.int ((((own_one on1 (Int32.ofNat j1) (Int32.ofNat jq)) + (own_one zJ15_0 (Int32.ofNat j2) (Int32.ofNat jq))) + (own_one zJ17_0 (Int32.ofNat j3) (Int32.ofNat jq))) + (own_one zJ19_0 (Int32.ofNat j4) (Int32.ofNat jq)))), .unset]) rfl q) ?_
                show Go _ _ _ _ _ _ _ (T41.setTop (mkF m 391 #[.val (.int x1), .val (.int x2), .val (.int x3), .val (.int x4), .val (.int x5), .val (.int (Int32.ofNat k1)), .val (.int (Int32.ofNat k2)), .val (.int (Int32.ofNat k3)), .val (.int (Int32.ofNat k4)), .val (.int sp1), .val (.int sp2), .val (.int sp3), .val (.int sp4), .val (.int (Int32.ofNat j1)), .val (.int (Int32.ofNat j2)), .val (.int (Int32.ofNat j3)), .val (.int (Int32.ofNat j4)), .val (.int (Int32.ofNat jq)), .val (.int on1), .val (.int zJ15_0), .val (.int zJ17_0), .val (.int zJ19_0), .val (.ref a), .val (.int ((((own_one on1 (Int32.ofNat j1) (Int32.ofNat jq)) + (own_one zJ15_0 (Int32.ofNat j2) (Int32.ofNat jq))) + (own_one zJ17_0 (Int32.ofNat j3) (Int32.ofNat jq))) + (own_one zJ19_0 (Int32.ofNat j4) (Int32.ofNat jq)))), .unset] []))
                refine Go.of (fun _ q => XS.iload X41.here hx rfl (hb hby at_391) rfl q) ?_
                show Go _ _ _ _ _ _ _ (T41.setTop (mkF m 393 #[.val (.int x1), .val (.int x2), .val (.int x3), .val (.int x4), .val (.int x5), .val (.int (Int32.ofNat k1)), .val (.int (Int32.ofNat k2)), .val (.int (Int32.ofNat k3)), .val (.int (Int32.ofNat k4)), .val (.int sp1), .val (.int sp2), .val (.int sp3), .val (.int sp4), .val (.int (Int32.ofNat j1)), .val (.int (Int32.ofNat j2)), .val (.int (Int32.ofNat j3)), .val (.int (Int32.ofNat j4)), .val (.int (Int32.ofNat jq)), .val (.int on1), .val (.int zJ15_0), .val (.int zJ17_0), .val (.int zJ19_0), .val (.ref a), .val (.int ((((own_one on1 (Int32.ofNat j1) (Int32.ofNat jq)) + (own_one zJ15_0 (Int32.ofNat j2) (Int32.ofNat jq))) + (own_one zJ17_0 (Int32.ofNat j3) (Int32.ofNat jq))) + (own_one zJ19_0 (Int32.ofNat j4) (Int32.ofNat jq)))), .unset] [(.int on1)]))
                refine Go.of (fun _ q => XS.iload X41.here hx rfl (hb hby at_393) rfl q) ?_
                show Go _ _ _ _ _ _ _ (T41.setTop (mkF m 395 #[.val (.int x1), .val (.int x2), .val (.int x3), .val (.int x4), .val (.int x5), .val (.int (Int32.ofNat k1)), .val (.int (Int32.ofNat k2)), .val (.int (Int32.ofNat k3)), .val (.int (Int32.ofNat k4)), .val (.int sp1), .val (.int sp2), .val (.int sp3), .val (.int sp4), .val (.int (Int32.ofNat j1)), .val (.int (Int32.ofNat j2)), .val (.int (Int32.ofNat j3)), .val (.int (Int32.ofNat j4)), .val (.int (Int32.ofNat jq)), .val (.int on1), .val (.int zJ15_0), .val (.int zJ17_0), .val (.int zJ19_0), .val (.ref a), .val (.int ((((own_one on1 (Int32.ofNat j1) (Int32.ofNat jq)) + (own_one zJ15_0 (Int32.ofNat j2) (Int32.ofNat jq))) + (own_one zJ17_0 (Int32.ofNat j3) (Int32.ofNat jq))) + (own_one zJ19_0 (Int32.ofNat j4) (Int32.ofNat jq)))), .unset] [(.int (Int32.ofNat j1)), (.int on1)]))
                refine Go.of (fun _ q => XS.iload X41.here hx rfl (hb hby at_395) rfl q) ?_
                show Go _ _ _ _ _ _ _ (T41.setTop (mkF m 397 #[.val (.int x1), .val (.int x2), .val (.int x3), .val (.int x4), .val (.int x5), .val (.int (Int32.ofNat k1)), .val (.int (Int32.ofNat k2)), .val (.int (Int32.ofNat k3)), .val (.int (Int32.ofNat k4)), .val (.int sp1), .val (.int sp2), .val (.int sp3), .val (.int sp4), .val (.int (Int32.ofNat j1)), .val (.int (Int32.ofNat j2)), .val (.int (Int32.ofNat j3)), .val (.int (Int32.ofNat j4)), .val (.int (Int32.ofNat jq)), .val (.int on1), .val (.int zJ15_0), .val (.int zJ17_0), .val (.int zJ19_0), .val (.ref a), .val (.int ((((own_one on1 (Int32.ofNat j1) (Int32.ofNat jq)) + (own_one zJ15_0 (Int32.ofNat j2) (Int32.ofNat jq))) + (own_one zJ17_0 (Int32.ofNat j3) (Int32.ofNat jq))) + (own_one zJ19_0 (Int32.ofNat j4) (Int32.ofNat jq)))), .unset] [(.int (Int32.ofNat j1)), (.int (Int32.ofNat j1)), (.int on1)]))
                refine Go.static X41 hx hZ (y := (⟨"com/example/tundra_ascent/tundraascent/rules/DisplayPawnsOfPinLaw", "one", "(ZII)I"⟩ : MethodName)) (argsL := [(.int on1), (.int (Int32.ofNat j1)), (.int (Int32.ofNat j1))]) hown (hw _ (List.mem_of_getElem? (i := 32) rfl)) (hw _ (List.mem_of_getElem? (i := 33) rfl)) (hw _ (List.mem_of_getElem? (i := 2) rfl)) (hw _ (List.mem_of_getElem? (i := 34) rfl)) (by decide) 0 e41 (rm8 l Z a0 hw on1 (Int32.ofNat j1) (Int32.ofNat j1) hJ37 n0 Zs ) (by decide) (by decide) (by decide) (by decide) (g := (mkF m 397 #[.val (.int x1), .val (.int x2), .val (.int x3), .val (.int x4), .val (.int x5), .val (.int (Int32.ofNat k1)), .val (.int (Int32.ofNat k2)), .val (.int (Int32.ofNat k3)), .val (.int (Int32.ofNat k4)), .val (.int sp1), .val (.int sp2), .val (.int sp3), .val (.int sp4), .val (.int (Int32.ofNat j1)), .val (.int (Int32.ofNat j2)), .val (.int (Int32.ofNat j3)), .val (.int (Int32.ofNat j4)), .val (.int (Int32.ofNat jq)), .val (.int on1), .val (.int zJ15_0), .val (.int zJ17_0), .val (.int zJ19_0), .val (.ref a), .val (.int ((((own_one on1 (Int32.ofNat j1) (Int32.ofNat jq)) + (own_one zJ15_0 (Int32.ofNat j2) (Int32.ofNat jq))) + (own_one zJ17_0 (Int32.ofNat j3) (Int32.ofNat jq))) + (own_one zJ19_0 (Int32.ofNat j4) (Int32.ofNat jq)))), .unset] [(.int (Int32.ofNat j1)), (.int (Int32.ofNat j1)), (.int on1)])) rfl (by rw [hml]; rfl) (rest := []) (lenOf pd11 rfl) rfl (by show 2 * 0 + _ ≤ _; exact Nat.le_of_eq rfl) (hb hby at_397) ?_
                intro T42 v42 L42 X42 q42
                obtain ⟨rfl, Nq42, e42⟩ := q42
                have N42 := Fr.app N41 Nq42
                show Go _ _ _ _ _ _ _ (T42.setTop (mkF m 400 #[.val (.int x1), .val (.int x2), .val (.int x3), .val (.int x4), .val (.int x5), .val (.int (Int32.ofNat k1)), .val (.int (Int32.ofNat k2)), .val (.int (Int32.ofNat k3)), .val (.int (Int32.ofNat k4)), .val (.int sp1), .val (.int sp2), .val (.int sp3), .val (.int sp4), .val (.int (Int32.ofNat j1)), .val (.int (Int32.ofNat j2)), .val (.int (Int32.ofNat j3)), .val (.int (Int32.ofNat j4)), .val (.int (Int32.ofNat jq)), .val (.int on1), .val (.int zJ15_0), .val (.int zJ17_0), .val (.int zJ19_0), .val (.ref a), .val (.int ((((own_one on1 (Int32.ofNat j1) (Int32.ofNat jq)) + (own_one zJ15_0 (Int32.ofNat j2) (Int32.ofNat jq))) + (own_one zJ17_0 (Int32.ofNat j3) (Int32.ofNat jq))) + (own_one zJ19_0 (Int32.ofNat j4) (Int32.ofNat jq)))), .unset] [(.int (own_one on1 (Int32.ofNat j1) (Int32.ofNat j1)))]))
                refine Go.of (fun _ q => XS.iload X42.here hx rfl (hb hby at_400) rfl q) ?_
                show Go _ _ _ _ _ _ _ (T42.setTop (mkF m 402 #[.val (.int x1), .val (.int x2), .val (.int x3), .val (.int x4), .val (.int x5), .val (.int (Int32.ofNat k1)), .val (.int (Int32.ofNat k2)), .val (.int (Int32.ofNat k3)), .val (.int (Int32.ofNat k4)), .val (.int sp1), .val (.int sp2), .val (.int sp3), .val (.int sp4), .val (.int (Int32.ofNat j1)), .val (.int (Int32.ofNat j2)), .val (.int (Int32.ofNat j3)), .val (.int (Int32.ofNat j4)), .val (.int (Int32.ofNat jq)), .val (.int on1), .val (.int zJ15_0), .val (.int zJ17_0), .val (.int zJ19_0), .val (.ref a), .val (.int ((((own_one on1 (Int32.ofNat j1) (Int32.ofNat jq)) + (own_one zJ15_0 (Int32.ofNat j2) (Int32.ofNat jq))) + (own_one zJ17_0 (Int32.ofNat j3) (Int32.ofNat jq))) + (own_one zJ19_0 (Int32.ofNat j4) (Int32.ofNat jq)))), .unset] [(.int zJ15_0), (.int (own_one on1 (Int32.ofNat j1) (Int32.ofNat j1)))]))
                refine Go.of (fun _ q => XS.iload X42.here hx rfl (hb hby at_402) rfl q) ?_
                show Go _ _ _ _ _ _ _ (T42.setTop (mkF m 404 #[.val (.int x1), .val (.int x2), .val (.int x3), .val (.int x4), .val (.int x5), .val (.int (Int32.ofNat k1)), .val (.int (Int32.ofNat k2)), .val (.int (Int32.ofNat k3)), .val (.int (Int32.ofNat k4)), .val (.int sp1), .val (.int sp2), .val (.int sp3), .val (.int sp4), .val (.int (Int32.ofNat j1)), .val (.int (Int32.ofNat j2)), .val (.int (Int32.ofNat j3)), .val (.int (Int32.ofNat j4)), .val (.int (Int32.ofNat jq)), .val (.int on1), .val (.int zJ15_0), .val (.int zJ17_0), .val (.int zJ19_0), .val (.ref a), .val (.int ((((own_one on1 (Int32.ofNat j1) (Int32.ofNat jq)) + (own_one zJ15_0 (Int32.ofNat j2) (Int32.ofNat jq))) + (own_one zJ17_0 (Int32.ofNat j3) (Int32.ofNat jq))) + (own_one zJ19_0 (Int32.ofNat j4) (Int32.ofNat jq)))), .unset] [(.int (Int32.ofNat j2)), (.int zJ15_0), (.int (own_one on1 (Int32.ofNat j1) (Int32.ofNat j1)))]))
                refine Go.of (fun _ q => XS.iload X42.here hx rfl (hb hby at_404) rfl q) ?_
                show Go _ _ _ _ _ _ _ (T42.setTop (mkF m 406 #[.val (.int x1), .val (.int x2), .val (.int x3), .val (.int x4), .val (.int x5), .val (.int (Int32.ofNat k1)), .val (.int (Int32.ofNat k2)), .val (.int (Int32.ofNat k3)), .val (.int (Int32.ofNat k4)), .val (.int sp1), .val (.int sp2), .val (.int sp3), .val (.int sp4), .val (.int (Int32.ofNat j1)), .val (.int (Int32.ofNat j2)), .val (.int (Int32.ofNat j3)), .val (.int (Int32.ofNat j4)), .val (.int (Int32.ofNat jq)), .val (.int on1), .val (.int zJ15_0), .val (.int zJ17_0), .val (.int zJ19_0), .val (.ref a), .val (.int ((((own_one on1 (Int32.ofNat j1) (Int32.ofNat jq)) + (own_one zJ15_0 (Int32.ofNat j2) (Int32.ofNat jq))) + (own_one zJ17_0 (Int32.ofNat j3) (Int32.ofNat jq))) + (own_one zJ19_0 (Int32.ofNat j4) (Int32.ofNat jq)))), .unset] [(.int (Int32.ofNat j1)), (.int (Int32.ofNat j2)), (.int zJ15_0), (.int (own_one on1 (Int32.ofNat j1) (Int32.ofNat j1)))]))
                refine Go.static X42 hx hZ (y := (⟨"com/example/tundra_ascent/tundraascent/rules/DisplayPawnsOfPinLaw", "one", "(ZII)I"⟩ : MethodName)) (argsL := [(.int zJ15_0), (.int (Int32.ofNat j2)), (.int (Int32.ofNat j1))]) hown (hw _ (List.mem_of_getElem? (i := 32) rfl)) (hw _ (List.mem_of_getElem? (i := 33) rfl)) (hw _ (List.mem_of_getElem? (i := 2) rfl)) (hw _ (List.mem_of_getElem? (i := 34) rfl)) (by decide) 1 e42 (rm8 l Z a0 hw zJ15_0 (Int32.ofNat j2) (Int32.ofNat j1) hJ37 n0 Zs ) (by decide) (by decide) (by decide) (by decide) (g := (mkF m 406 #[.val (.int x1), .val (.int x2), .val (.int x3), .val (.int x4), .val (.int x5), .val (.int (Int32.ofNat k1)), .val (.int (Int32.ofNat k2)), .val (.int (Int32.ofNat k3)), .val (.int (Int32.ofNat k4)), .val (.int sp1), .val (.int sp2), .val (.int sp3), .val (.int sp4), .val (.int (Int32.ofNat j1)), .val (.int (Int32.ofNat j2)), .val (.int (Int32.ofNat j3)), .val (.int (Int32.ofNat j4)), .val (.int (Int32.ofNat jq)), .val (.int on1), .val (.int zJ15_0), .val (.int zJ17_0), .val (.int zJ19_0), .val (.ref a), .val (.int ((((own_one on1 (Int32.ofNat j1) (Int32.ofNat jq)) + (own_one zJ15_0 (Int32.ofNat j2) (Int32.ofNat jq))) + (own_one zJ17_0 (Int32.ofNat j3) (Int32.ofNat jq))) + (own_one zJ19_0 (Int32.ofNat j4) (Int32.ofNat jq)))), .unset] [(.int (Int32.ofNat j1)), (.int (Int32.ofNat j2)), (.int zJ15_0), (.int (own_one on1 (Int32.ofNat j1) (Int32.ofNat j1)))])) rfl (by rw [hml]; rfl) (rest := [(.int (own_one on1 (Int32.ofNat j1) (Int32.ofNat j1)))]) (lenOf pd11 rfl) rfl (by show 2 * 0 + _ ≤ _; exact Nat.le_of_eq rfl) (hb hby at_406) ?_
                intro T43 v43 L43 X43 q43
                obtain ⟨rfl, Nq43, e43⟩ := q43
                have N43 := Fr.app N42 Nq43
                show Go _ _ _ _ _ _ _ (T43.setTop (mkF m 409 #[.val (.int x1), .val (.int x2), .val (.int x3), .val (.int x4), .val (.int x5), .val (.int (Int32.ofNat k1)), .val (.int (Int32.ofNat k2)), .val (.int (Int32.ofNat k3)), .val (.int (Int32.ofNat k4)), .val (.int sp1), .val (.int sp2), .val (.int sp3), .val (.int sp4), .val (.int (Int32.ofNat j1)), .val (.int (Int32.ofNat j2)), .val (.int (Int32.ofNat j3)), .val (.int (Int32.ofNat j4)), .val (.int (Int32.ofNat jq)), .val (.int on1), .val (.int zJ15_0), .val (.int zJ17_0), .val (.int zJ19_0), .val (.ref a), .val (.int ((((own_one on1 (Int32.ofNat j1) (Int32.ofNat jq)) + (own_one zJ15_0 (Int32.ofNat j2) (Int32.ofNat jq))) + (own_one zJ17_0 (Int32.ofNat j3) (Int32.ofNat jq))) + (own_one zJ19_0 (Int32.ofNat j4) (Int32.ofNat jq)))), .unset] [(.int (own_one zJ15_0 (Int32.ofNat j2) (Int32.ofNat j1))), (.int (own_one on1 (Int32.ofNat j1) (Int32.ofNat j1)))]))
                refine Go.of (fun _ q => XS.iadd X43.here hx rfl (hb hby at_409) rfl q) ?_
                show Go _ _ _ _ _ _ _ (T43.setTop (mkF m 410 #[.val (.int x1), .val (.int x2), .val (.int x3), .val (.int x4), .val (.int x5), .val (.int (Int32.ofNat k1)), .val (.int (Int32.ofNat k2)), .val (.int (Int32.ofNat k3)), .val (.int (Int32.ofNat k4)), .val (.int sp1), .val (.int sp2), .val (.int sp3), .val (.int sp4), .val (.int (Int32.ofNat j1)), .val (.int (Int32.ofNat j2)), .val (.int (Int32.ofNat j3)), .val (.int (Int32.ofNat j4)), .val (.int (Int32.ofNat jq)), .val (.int on1), .val (.int zJ15_0), .val (.int zJ17_0), .val (.int zJ19_0), .val (.ref a), .val (.int ((((own_one on1 (Int32.ofNat j1) (Int32.ofNat jq)) + (own_one zJ15_0 (Int32.ofNat j2) (Int32.ofNat jq))) + (own_one zJ17_0 (Int32.ofNat j3) (Int32.ofNat jq))) + (own_one zJ19_0 (Int32.ofNat j4) (Int32.ofNat jq)))), .unset] [(.int ((own_one on1 (Int32.ofNat j1) (Int32.ofNat j1)) + (own_one zJ15_0 (Int32.ofNat j2) (Int32.ofNat j1))))]))
                refine Go.of (fun _ q => XS.iload X43.here hx rfl (hb hby at_410) rfl q) ?_
                show Go _ _ _ _ _ _ _ (T43.setTop (mkF m 412 #[.val (.int x1), .val (.int x2), .val (.int x3), .val (.int x4), .val (.int x5), .val (.int (Int32.ofNat k1)), .val (.int (Int32.ofNat k2)), .val (.int (Int32.ofNat k3)), .val (.int (Int32.ofNat k4)), .val (.int sp1), .val (.int sp2), .val (.int sp3), .val (.int sp4), .val (.int (Int32.ofNat j1)), .val (.int (Int32.ofNat j2)), .val (.int (Int32.ofNat j3)), .val (.int (Int32.ofNat j4)), .val (.int (Int32.ofNat jq)), .val (.int on1), .val (.int zJ15_0), .val (.int zJ17_0), .val (.int zJ19_0), .val (.ref a), .val (.int ((((own_one on1 (Int32.ofNat j1) (Int32.ofNat jq)) + (own_one zJ15_0 (Int32.ofNat j2) (Int32.ofNat jq))) + (own_one zJ17_0 (Int32.ofNat j3) (Int32.ofNat jq))) + (own_one zJ19_0 (Int32.ofNat j4) (Int32.ofNat jq)))), .unset] [(.int zJ17_0), (.int ((own_one on1 (Int32.ofNat j1) (Int32.ofNat j1)) + (own_one zJ15_0 (Int32.ofNat j2) (Int32.ofNat j1))))]))
                refine Go.of (fun _ q => XS.iload X43.here hx rfl (hb hby at_412) rfl q) ?_
                show Go _ _ _ _ _ _ _ (T43.setTop (mkF m 414 #[.val (.int x1), .val (.int x2), .val (.int x3), .val (.int x4), .val (.int x5), .val (.int (Int32.ofNat k1)), .val (.int (Int32.ofNat k2)), .val (.int (Int32.ofNat k3)), .val (.int (Int32.ofNat k4)), .val (.int sp1), .val (.int sp2), .val (.int sp3), .val (.int sp4), .val (.int (Int32.ofNat j1)), .val (.int (Int32.ofNat j2)), .val (.int (Int32.ofNat j3)), .val (.int (Int32.ofNat j4)), .val (.int (Int32.ofNat jq)), .val (.int on1), .val (.int zJ15_0), .val (.int zJ17_0), .val (.int zJ19_0), .val (.ref a), .val (.int ((((own_one on1 (Int32.ofNat j1) (Int32.ofNat jq)) + (own_one zJ15_0 (Int32.ofNat j2) (Int32.ofNat jq))) + (own_one zJ17_0 (Int32.ofNat j3) (Int32.ofNat jq))) + (own_one zJ19_0 (Int32.ofNat j4) (Int32.ofNat jq)))), .unset] [(.int (Int32.ofNat j3)), (.int zJ17_0), (.int ((own_one on1 (Int32.ofNat j1) (Int32.ofNat j1)) + (own_one zJ15_0 (Int32.ofNat j2) (Int32.ofNat j1))))]))
                refine Go.of (fun _ q => XS.iload X43.here hx rfl (hb hby at_414) rfl q) ?_
                show Go _ _ _ _ _ _ _ (T43.setTop (mkF m 416 #[.val (.int x1), .val (.int x2), .val (.int x3), .val (.int x4), .val (.int x5), .val (.int (Int32.ofNat k1)), .val (.int (Int32.ofNat k2)), .val (.int (Int32.ofNat k3)), .val (.int (Int32.ofNat k4)), .val (.int sp1), .val (.int sp2), .val (.int sp3), .val (.int sp4), .val (.int (Int32.ofNat j1)), .val (.int (Int32.ofNat j2)), .val (.int (Int32.ofNat j3)), .val (.int (Int32.ofNat j4)), .val (.int (Int32.ofNat jq)), .val (.int on1), .val (.int zJ15_0), .val (.int zJ17_0), .val (.int zJ19_0), .val (.ref a), .val (.int ((((own_one on1 (Int32.ofNat j1) (Int32.ofNat jq)) + (own_one zJ15_0 (Int32.ofNat j2) (Int32.ofNat jq))) + (own_one zJ17_0 (Int32.ofNat j3) (Int32.ofNat jq))) + (own_one zJ19_0 (Int32.ofNat j4) (Int32.ofNat jq)))), .unset] [(.int (Int32.ofNat j1)), (.int (Int32.ofNat j3)), (.int zJ17_0), (.int ((own_one on1 (Int32.ofNat j1) (Int32.ofNat j1)) + (own_one zJ15_0 (Int32.ofNat j2) (Int32.ofNat j1))))]))
                refine Go.static X43 hx hZ (y := (⟨"com/example/tundra_ascent/tundraascent/rules/DisplayPawnsOfPinLaw", "one", "(ZII)I"⟩ : MethodName)) (argsL := [(.int zJ17_0), (.int (Int32.ofNat j3)), (.int (Int32.ofNat j1))]) hown (hw _ (List.mem_of_getElem? (i := 32) rfl)) (hw _ (List.mem_of_getElem? (i := 33) rfl)) (hw _ (List.mem_of_getElem? (i := 2) rfl)) (hw _ (List.mem_of_getElem? (i := 34) rfl)) (by decide) 1 e43 (rm8 l Z a0 hw zJ17_0 (Int32.ofNat j3) (Int32.ofNat j1) hJ37 n0 Zs ) (by decide) (by decide) (by decide) (by decide) (g := (mkF m 416 #[.val (.int x1), .val (.int x2), .val (.int x3), .val (.int x4), .val (.int x5), .val (.int (Int32.ofNat k1)), .val (.int (Int32.ofNat k2)), .val (.int (Int32.ofNat k3)), .val (.int (Int32.ofNat k4)), .val (.int sp1), .val (.int sp2), .val (.int sp3), .val (.int sp4), .val (.int (Int32.ofNat j1)), .val (.int (Int32.ofNat j2)), .val (.int (Int32.ofNat j3)), .val (.int (Int32.ofNat j4)), .val (.int (Int32.ofNat jq)), .val (.int on1), .val (.int zJ15_0), .val (.int zJ17_0), .val (.int zJ19_0), .val (.ref a), .val (.int ((((own_one on1 (Int32.ofNat j1) (Int32.ofNat jq)) + (own_one zJ15_0 (Int32.ofNat j2) (Int32.ofNat jq))) + (own_one zJ17_0 (Int32.ofNat j3) (Int32.ofNat jq))) + (own_one zJ19_0 (Int32.ofNat j4) (Int32.ofNat jq)))), .unset] [(.int (Int32.ofNat j1)), (.int (Int32.ofNat j3)), (.int zJ17_0), (.int ((own_one on1 (Int32.ofNat j1) (Int32.ofNat j1)) + (own_one zJ15_0 (Int32.ofNat j2) (Int32.ofNat j1))))])) rfl (by rw [hml]; rfl) (rest := [(.int ((own_one on1 (Int32.ofNat j1) (Int32.ofNat j1)) + (own_one zJ15_0 (Int32.ofNat j2) (Int32.ofNat j1))))]) (lenOf pd11 rfl) rfl (by show 2 * 0 + _ ≤ _; exact Nat.le_of_eq rfl) (hb hby at_416) ?_
                intro T44 v44 L44 X44 q44
                obtain ⟨rfl, Nq44, e44⟩ := q44
                have N44 := Fr.app N43 Nq44
                show Go _ _ _ _ _ _ _ (T44.setTop (mkF m 419 #[.val (.int x1), .val (.int x2), .val (.int x3), .val (.int x4), .val (.int x5), .val (.int (Int32.ofNat k1)), .val (.int (Int32.ofNat k2)), .val (.int (Int32.ofNat k3)), .val (.int (Int32.ofNat k4)), .val (.int sp1), .val (.int sp2), .val (.int sp3), .val (.int sp4), .val (.int (Int32.ofNat j1)), .val (.int (Int32.ofNat j2)), .val (.int (Int32.ofNat j3)), .val (.int (Int32.ofNat j4)), .val (.int (Int32.ofNat jq)), .val (.int on1), .val (.int zJ15_0), .val (.int zJ17_0), .val (.int zJ19_0), .val (.ref a), .val (.int ((((own_one on1 (Int32.ofNat j1) (Int32.ofNat jq)) + (own_one zJ15_0 (Int32.ofNat j2) (Int32.ofNat jq))) + (own_one zJ17_0 (Int32.ofNat j3) (Int32.ofNat jq))) + (own_one zJ19_0 (Int32.ofNat j4) (Int32.ofNat jq)))), .unset] [(.int (own_one zJ17_0 (Int32.ofNat j3) (Int32.ofNat j1))), (.int ((own_one on1 (Int32.ofNat j1) (Int32.ofNat j1)) + (own_one zJ15_0 (Int32.ofNat j2) (Int32.ofNat j1))))]))
                refine Go.of (fun _ q => XS.iadd X44.here hx rfl (hb hby at_419) rfl q) ?_
                show Go _ _ _ _ _ _ _ (T44.setTop (mkF m 420 #[.val (.int x1), .val (.int x2), .val (.int x3), .val (.int x4), .val (.int x5), .val (.int (Int32.ofNat k1)), .val (.int (Int32.ofNat k2)), .val (.int (Int32.ofNat k3)), .val (.int (Int32.ofNat k4)), .val (.int sp1), .val (.int sp2), .val (.int sp3), .val (.int sp4), .val (.int (Int32.ofNat j1)), .val (.int (Int32.ofNat j2)), .val (.int (Int32.ofNat j3)), .val (.int (Int32.ofNat j4)), .val (.int (Int32.ofNat jq)), .val (.int on1), .val (.int zJ15_0), .val (.int zJ17_0), .val (.int zJ19_0), .val (.ref a), .val (.int ((((own_one on1 (Int32.ofNat j1) (Int32.ofNat jq)) + (own_one zJ15_0 (Int32.ofNat j2) (Int32.ofNat jq))) + (own_one zJ17_0 (Int32.ofNat j3) (Int32.ofNat jq))) + (own_one zJ19_0 (Int32.ofNat j4) (Int32.ofNat jq)))), .unset] [(.int (((own_one on1 (Int32.ofNat j1) (Int32.ofNat j1)) + (own_one zJ15_0 (Int32.ofNat j2) (Int32.ofNat j1))) + (own_one zJ17_0 (Int32.ofNat j3) (Int32.ofNat j1))))]))
                refine Go.of (fun _ q => XS.iload X44.here hx rfl (hb hby at_420) rfl q) ?_
                show Go _ _ _ _ _ _ _ (T44.setTop (mkF m 422 #[.val (.int x1), .val (.int x2), .val (.int x3), .val (.int x4), .val (.int x5), .val (.int (Int32.ofNat k1)), .val (.int (Int32.ofNat k2)), .val (.int (Int32.ofNat k3)), .val (.int (Int32.ofNat k4)), .val (.int sp1), .val (.int sp2), .val (.int sp3), .val (.int sp4), .val (.int (Int32.ofNat j1)), .val (.int (Int32.ofNat j2)), .val (.int (Int32.ofNat j3)), .val (.int (Int32.ofNat j4)), .val (.int (Int32.ofNat jq)), .val (.int on1), .val (.int zJ15_0), .val (.int zJ17_0), .val (.int zJ19_0), .val (.ref a), .val (.int ((((own_one on1 (Int32.ofNat j1) (Int32.ofNat jq)) + (own_one zJ15_0 (Int32.ofNat j2) (Int32.ofNat jq))) + (own_one zJ17_0 (Int32.ofNat j3) (Int32.ofNat jq))) + (own_one zJ19_0 (Int32.ofNat j4) (Int32.ofNat jq)))), .unset] [(.int zJ19_0), (.int (((own_one on1 (Int32.ofNat j1) (Int32.ofNat j1)) + (own_one zJ15_0 (Int32.ofNat j2) (Int32.ofNat j1))) + (own_one zJ17_0 (Int32.ofNat j3) (Int32.ofNat j1))))]))
                refine Go.of (fun _ q => XS.iload X44.here hx rfl (hb hby at_422) rfl q) ?_
                show Go _ _ _ _ _ _ _ (T44.setTop (mkF m 424 #[.val (.int x1), .val (.int x2), .val (.int x3), .val (.int x4), .val (.int x5), .val (.int (Int32.ofNat k1)), .val (.int (Int32.ofNat k2)), .val (.int (Int32.ofNat k3)), .val (.int (Int32.ofNat k4)), .val (.int sp1), .val (.int sp2), .val (.int sp3), .val (.int sp4), .val (.int (Int32.ofNat j1)), .val (.int (Int32.ofNat j2)), .val (.int (Int32.ofNat j3)), .val (.int (Int32.ofNat j4)), .val (.int (Int32.ofNat jq)), .val (.int on1), .val (.int zJ15_0), .val (.int zJ17_0), .val (.int zJ19_0), .val (.ref a), .val (.int ((((own_one on1 (Int32.ofNat j1) (Int32.ofNat jq)) + (own_one zJ15_0 (Int32.ofNat j2) (Int32.ofNat jq))) + (own_one zJ17_0 (Int32.ofNat j3) (Int32.ofNat jq))) + (own_one zJ19_0 (Int32.ofNat j4) (Int32.ofNat jq)))), .unset] [(.int (Int32.ofNat j4)), (.int zJ19_0), (.int (((own_one on1 (Int32.ofNat j1) (Int32.ofNat j1)) + (own_one zJ15_0 (Int32.ofNat j2) (Int32.ofNat j1))) + (own_one zJ17_0 (Int32.ofNat j3) (Int32.ofNat j1))))]))
                refine Go.of (fun _ q => XS.iload X44.here hx rfl (hb hby at_424) rfl q) ?_
                show Go _ _ _ _ _ _ _ (T44.setTop (mkF m 426 #[.val (.int x1), .val (.int x2), .val (.int x3), .val (.int x4), .val (.int x5), .val (.int (Int32.ofNat k1)), .val (.int (Int32.ofNat k2)), .val (.int (Int32.ofNat k3)), .val (.int (Int32.ofNat k4)), .val (.int sp1), .val (.int sp2), .val (.int sp3), .val (.int sp4), .val (.int (Int32.ofNat j1)), .val (.int (Int32.ofNat j2)), .val (.int (Int32.ofNat j3)), .val (.int (Int32.ofNat j4)), .val (.int (Int32.ofNat jq)), .val (.int on1), .val (.int zJ15_0), .val (.int zJ17_0), .val (.int zJ19_0), .val (.ref a), .val (.int ((((own_one on1 (Int32.ofNat j1) (Int32.ofNat jq)) + (own_one zJ15_0 (Int32.ofNat j2) (Int32.ofNat jq))) + (own_one zJ17_0 (Int32.ofNat j3) (Int32.ofNat jq))) + (own_one zJ19_0 (Int32.ofNat j4) (Int32.ofNat jq)))), .unset] [(.int (Int32.ofNat j1)), (.int (Int32.ofNat j4)), (.int zJ19_0), (.int (((own_one on1 (Int32.ofNat j1) (Int32.ofNat j1)) + (own_one zJ15_0 (Int32.ofNat j2) (Int32.ofNat j1))) + (own_one zJ17_0 (Int32.ofNat j3) (Int32.ofNat j1))))]))
                refine Go.static X44 hx hZ (y := (⟨"com/example/tundra_ascent/tundraascent/rules/DisplayPawnsOfPinLaw", "one", "(ZII)I"⟩ : MethodName)) (argsL := [(.int zJ19_0), (.int (Int32.ofNat j4)), (.int (Int32.ofNat j1))]) hown (hw _ (List.mem_of_getElem? (i := 32) rfl)) (hw _ (List.mem_of_getElem? (i := 33) rfl)) (hw _ (List.mem_of_getElem? (i := 2) rfl)) (hw _ (List.mem_of_getElem? (i := 34) rfl)) (by decide) 1 e44 (rm8 l Z a0 hw zJ19_0 (Int32.ofNat j4) (Int32.ofNat j1) hJ37 n0 Zs ) (by decide) (by decide) (by decide) (by decide) (g := (mkF m 426 #[.val (.int x1), .val (.int x2), .val (.int x3), .val (.int x4), .val (.int x5), .val (.int (Int32.ofNat k1)), .val (.int (Int32.ofNat k2)), .val (.int (Int32.ofNat k3)), .val (.int (Int32.ofNat k4)), .val (.int sp1), .val (.int sp2), .val (.int sp3), .val (.int sp4), .val (.int (Int32.ofNat j1)), .val (.int (Int32.ofNat j2)), .val (.int (Int32.ofNat j3)), .val (.int (Int32.ofNat j4)), .val (.int (Int32.ofNat jq)), .val (.int on1), .val (.int zJ15_0), .val (.int zJ17_0), .val (.int zJ19_0), .val (.ref a), .val (.int ((((own_one on1 (Int32.ofNat j1) (Int32.ofNat jq)) + (own_one zJ15_0 (Int32.ofNat j2) (Int32.ofNat jq))) + (own_one zJ17_0 (Int32.ofNat j3) (Int32.ofNat jq))) + (own_one zJ19_0 (Int32.ofNat j4) (Int32.ofNat jq)))), .unset] [(.int (Int32.ofNat j1)), (.int (Int32.ofNat j4)), (.int zJ19_0), (.int (((own_one on1 (Int32.ofNat j1) (Int32.ofNat j1)) + (own_one zJ15_0 (Int32.ofNat j2) (Int32.ofNat j1))) + (own_one zJ17_0 (Int32.ofNat j3) (Int32.ofNat j1))))])) rfl (by rw [hml]; rfl) (rest := [(.int (((own_one on1 (Int32.ofNat j1) (Int32.ofNat j1)) + (own_one zJ15_0 (Int32.ofNat j2) (Int32.ofNat j1))) + (own_one zJ17_0 (Int32.ofNat j3) (Int32.ofNat j1))))]) (lenOf pd11 rfl) rfl (by show 2 * 0 + _ ≤ _; exact Nat.le_of_eq rfl) (hb hby at_426) ?_
                intro T45 v45 L45 X45 q45
                obtain ⟨rfl, Nq45, e45⟩ := q45
                have N45 := Fr.app N44 Nq45
                show Go _ _ _ _ _ _ _ (T45.setTop (mkF m 429 #[.val (.int x1), .val (.int x2), .val (.int x3), .val (.int x4), .val (.int x5), .val (.int (Int32.ofNat k1)), .val (.int (Int32.ofNat k2)), .val (.int (Int32.ofNat k3)), .val (.int (Int32.ofNat k4)), .val (.int sp1), .val (.int sp2), .val (.int sp3), .val (.int sp4), .val (.int (Int32.ofNat j1)), .val (.int (Int32.ofNat j2)), .val (.int (Int32.ofNat j3)), .val (.int (Int32.ofNat j4)), .val (.int (Int32.ofNat jq)), .val (.int on1), .val (.int zJ15_0), .val (.int zJ17_0), .val (.int zJ19_0), .val (.ref a), .val (.int ((((own_one on1 (Int32.ofNat j1) (Int32.ofNat jq)) + (own_one zJ15_0 (Int32.ofNat j2) (Int32.ofNat jq))) + (own_one zJ17_0 (Int32.ofNat j3) (Int32.ofNat jq))) + (own_one zJ19_0 (Int32.ofNat j4) (Int32.ofNat jq)))), .unset] [(.int (own_one zJ19_0 (Int32.ofNat j4) (Int32.ofNat j1))), (.int (((own_one on1 (Int32.ofNat j1) (Int32.ofNat j1)) + (own_one zJ15_0 (Int32.ofNat j2) (Int32.ofNat j1))) + (own_one zJ17_0 (Int32.ofNat j3) (Int32.ofNat j1))))]))
                refine Go.of (fun _ q => XS.iadd X45.here hx rfl (hb hby at_429) rfl q) ?_
                show Go _ _ _ _ _ _ _ (T45.setTop (mkF m 430 #[.val (.int x1), .val (.int x2), .val (.int x3), .val (.int x4), .val (.int x5), .val (.int (Int32.ofNat k1)), .val (.int (Int32.ofNat k2)), .val (.int (Int32.ofNat k3)), .val (.int (Int32.ofNat k4)), .val (.int sp1), .val (.int sp2), .val (.int sp3), .val (.int sp4), .val (.int (Int32.ofNat j1)), .val (.int (Int32.ofNat j2)), .val (.int (Int32.ofNat j3)), .val (.int (Int32.ofNat j4)), .val (.int (Int32.ofNat jq)), .val (.int on1), .val (.int zJ15_0), .val (.int zJ17_0), .val (.int zJ19_0), .val (.ref a), .val (.int ((((own_one on1 (Int32.ofNat j1) (Int32.ofNat jq)) + (own_one zJ15_0 (Int32.ofNat j2) (Int32.ofNat jq))) + (own_one zJ17_0 (Int32.ofNat j3) (Int32.ofNat jq))) + (own_one zJ19_0 (Int32.ofNat j4) (Int32.ofNat jq)))), .unset] [(.int ((((own_one on1 (Int32.ofNat j1) (Int32.ofNat j1)) + (own_one zJ15_0 (Int32.ofNat j2) (Int32.ofNat j1))) + (own_one zJ17_0 (Int32.ofNat j3) (Int32.ofNat j1))) + (own_one zJ19_0 (Int32.ofNat j4) (Int32.ofNat j1))))]))
                refine Go.of (fun _ q => XS.istore X45.here hx rfl (hb hby at_430) rfl (l' := #[.val (.int x1), .val (.int x2), .val (.int x3), .val (.int x4), .val (.int x5), .val (.int (Int32.ofNat k1)), .val (.int (Int32.ofNat k2)), .val (.int (Int32.ofNat k3)), .val (.int (Int32.ofNat k4)), .val (.int sp1), .val (.int sp2), .val (.int sp3), .val (.int sp4), .val (.int (Int32.ofNat j1)), .val (.int (Int32.ofNat j2)), .val (.int (Int32.ofNat j3)), .val (.int (Int32.ofNat j4)), .val (.int (Int32.ofNat jq)), .val (.int on1), .val (.int zJ15_0), .val (.int zJ17_0), .val (.int zJ19_0), .val (.ref a), .val (.int ((((own_one on1 (Int32.ofNat j1) (Int32.ofNat jq)) + (own_one zJ15_0 (Int32.ofNat j2) (Int32.ofNat jq))) + (own_one zJ17_0 (Int32.ofNat j3) (Int32.ofNat jq))) + (own_one zJ19_0 (Int32.ofNat j4) (Int32.ofNat jq)))), .val (.int ((((own_one on1 (Int32.ofNat j1) (Int32.ofNat j1)) + (own_one zJ15_0 (Int32.ofNat j2) (Int32.ofNat j1))) + (own_one zJ17_0 (Int32.ofNat j3) (Int32.ofNat j1))) + (own_one zJ19_0 (Int32.ofNat j4) (Int32.ofNat j1))))]) rfl q) ?_
                have N1 : ¬ on1 = (0 : Int32) → (fun _ => Value.null) (own_idx k1 sp1) = .null := fun g => rfl
                have own_d12 : ¬ zJ15_0 = (0 : Int32) → ¬ on1 = (0 : Int32) → ¬ (k1 = k2 ∧ sp1 = sp2) := fun g => own_df12 hzJ15_0 g
                have N2 : ¬ zJ15_0 = (0 : Int32) → (own_put (fun _ => Value.null) on1 (own_idx k1 sp1) (own_an j1 p0 p1 p2 p3 p4 p5)) (own_idx k2 sp2) = .null := fun g => (own_put_null rfl (fun g' e => (own_d12 g g') (own_idx_inj hk1 hk2 (own_spb _ hk1 hsp1).1 (own_spb _ hk1 hsp1).2 (own_spb _ hk2 hsp2).1 (own_spb _ hk2 hsp2).2 e)))
                have own_d13 : ¬ zJ17_0 = (0 : Int32) → ¬ on1 = (0 : Int32) → ¬ (k1 = k3 ∧ sp1 = sp3) := fun g => own_df13 hzJ17_0 g
                have own_d23 : ¬ zJ17_0 = (0 : Int32) → ¬ zJ15_0 = (0 : Int32) → ¬ (k2 = k3 ∧ sp2 = sp3) := fun g => own_df23 hzJ17_0 g
                have N3 : ¬ zJ17_0 = (0 : Int32) → (own_put (own_put (fun _ => Value.null) on1 (own_idx k1 sp1) (own_an j1 p0 p1 p2 p3 p4 p5)) zJ15_0 (own_idx k2 sp2) (own_an j2 p0 p1 p2 p3 p4 p5)) (own_idx k3 sp3) = .null := fun g => (own_put_null (own_put_null rfl (fun g' e => (own_d13 g g') (own_idx_inj hk1 hk3 (own_spb _ hk1 hsp1).1 (own_spb _ hk1 hsp1).2 (own_spb _ hk3 hsp3).1 (own_spb _ hk3 hsp3).2 e))) (fun g' e => (own_d23 g g') (own_idx_inj hk2 hk3 (own_spb _ hk2 hsp2).1 (own_spb _ hk2 hsp2).2 (own_spb _ hk3 hsp3).1 (own_spb _ hk3 hsp3).2 e)))
                have own_d14 : ¬ zJ19_0 = (0 : Int32) → ¬ on1 = (0 : Int32) → ¬ (k1 = k4 ∧ sp1 = sp4) := fun g => own_df14 hzJ19_0 g
                have own_d24 : ¬ zJ19_0 = (0 : Int32) → ¬ zJ15_0 = (0 : Int32) → ¬ (k2 = k4 ∧ sp2 = sp4) := fun g => own_df24 hzJ19_0 g
                have own_d34 : ¬ zJ19_0 = (0 : Int32) → ¬ zJ17_0 = (0 : Int32) → ¬ (k3 = k4 ∧ sp3 = sp4) := fun g => own_df34 hzJ19_0 g
                have N4 : ¬ zJ19_0 = (0 : Int32) → (own_put (own_put (own_put (fun _ => Value.null) on1 (own_idx k1 sp1) (own_an j1 p0 p1 p2 p3 p4 p5)) zJ15_0 (own_idx k2 sp2) (own_an j2 p0 p1 p2 p3 p4 p5)) zJ17_0 (own_idx k3 sp3) (own_an j3 p0 p1 p2 p3 p4 p5)) (own_idx k4 sp4) = .null := fun g => (own_put_null (own_put_null (own_put_null rfl (fun g' e => (own_d14 g g') (own_idx_inj hk1 hk4 (own_spb _ hk1 hsp1).1 (own_spb _ hk1 hsp1).2 (own_spb _ hk4 hsp4).1 (own_spb _ hk4 hsp4).2 e))) (fun g' e => (own_d24 g g') (own_idx_inj hk2 hk4 (own_spb _ hk2 hsp2).1 (own_spb _ hk2 hsp2).2 (own_spb _ hk4 hsp4).1 (own_spb _ hk4 hsp4).2 e))) (fun g' e => (own_d34 g g') (own_idx_inj hk3 hk4 (own_spb _ hk3 hsp3).1 (own_spb _ hk3 hsp3).2 (own_spb _ hk4 hsp4).1 (own_spb _ hk4 hsp4).2 e)))
                show Go _ _ _ _ _ _ _ (T45.setTop (mkF m 432 #[.val (.int x1), .val (.int x2), .val (.int x3), .val (.int x4), .val (.int x5), .val (.int (Int32.ofNat k1)), .val (.int (Int32.ofNat k2)), .val (.int (Int32.ofNat k3)), .val (.int (Int32.ofNat k4)), .val (.int sp1), .val (.int sp2), .val (.int sp3), .val (.int sp4), .val (.int (Int32.ofNat j1)), .val (.int (Int32.ofNat j2)), .val (.int (Int32.ofNat j3)), .val (.int (Int32.ofNat j4)), .val (.int (Int32.ofNat jq)), .val (.int on1), .val (.int zJ15_0), .val (.int zJ17_0), .val (.int zJ19_0), .val (.ref a), .val (.int ((((own_one on1 (Int32.ofNat j1) (Int32.ofNat jq)) + (own_one zJ15_0 (Int32.ofNat j2) (Int32.ofNat jq))) + (own_one zJ17_0 (Int32.ofNat j3) (Int32.ofNat jq))) + (own_one zJ19_0 (Int32.ofNat j4) (Int32.ofNat jq)))), .val (.int ((((own_one on1 (Int32.ofNat j1) (Int32.ofNat j1)) + (own_one zJ15_0 (Int32.ofNat j2) (Int32.ofNat j1))) + (own_one zJ17_0 (Int32.ofNat j3) (Int32.ofNat j1))) + (own_one zJ19_0 (Int32.ofNat j4) (Int32.ofNat j1))))] []))
                refine Go.of (fun _ q => XS.aload X45.here hx rfl (hb hby at_432) rfl rfl q) ?_
                show Go _ _ _ _ _ _ _ (T45.setTop (mkF m 434 #[.val (.int x1), .val (.int x2), .val (.int x3), .val (.int x4), .val (.int x5), .val (.int (Int32.ofNat k1)), .val (.int (Int32.ofNat k2)), .val (.int (Int32.ofNat k3)), .val (.int (Int32.ofNat k4)), .val (.int sp1), .val (.int sp2), .val (.int sp3), .val (.int sp4), .val (.int (Int32.ofNat j1)), .val (.int (Int32.ofNat j2)), .val (.int (Int32.ofNat j3)), .val (.int (Int32.ofNat j4)), .val (.int (Int32.ofNat jq)), .val (.int on1), .val (.int zJ15_0), .val (.int zJ17_0), .val (.int zJ19_0), .val (.ref a), .val (.int ((((own_one on1 (Int32.ofNat j1) (Int32.ofNat jq)) + (own_one zJ15_0 (Int32.ofNat j2) (Int32.ofNat jq))) + (own_one zJ17_0 (Int32.ofNat j3) (Int32.ofNat jq))) + (own_one zJ19_0 (Int32.ofNat j4) (Int32.ofNat jq)))), .val (.int ((((own_one on1 (Int32.ofNat j1) (Int32.ofNat j1)) + (own_one zJ15_0 (Int32.ofNat j2) (Int32.ofNat j1))) + (own_one zJ17_0 (Int32.ofNat j3) (Int32.ofNat j1))) + (own_one zJ19_0 (Int32.ofNat j4) (Int32.ofNat j1))))] [(.ref a)]))
                refine Go.of (fun _ q => XS.iload X45.here hx rfl (hb hby at_434) rfl q) ?_
                show Go _ _ _ _ _ _ _ (T45.setTop (mkF m 436 #[.val (.int x1), .val (.int x2), .val (.int x3), .val (.int x4), .val (.int x5), .val (.int (Int32.ofNat k1)), .val (.int (Int32.ofNat k2)), .val (.int (Int32.ofNat k3)), .val (.int (Int32.ofNat k4)), .val (.int sp1), .val (.int sp2), .val (.int sp3), .val (.int sp4), .val (.int (Int32.ofNat j1)), .val (.int (Int32.ofNat j2)), .val (.int (Int32.ofNat j3)), .val (.int (Int32.ofNat j4)), .val (.int (Int32.ofNat jq)), .val (.int on1), .val (.int zJ15_0), .val (.int zJ17_0), .val (.int zJ19_0), .val (.ref a), .val (.int ((((own_one on1 (Int32.ofNat j1) (Int32.ofNat jq)) + (own_one zJ15_0 (Int32.ofNat j2) (Int32.ofNat jq))) + (own_one zJ17_0 (Int32.ofNat j3) (Int32.ofNat jq))) + (own_one zJ19_0 (Int32.ofNat j4) (Int32.ofNat jq)))), .val (.int ((((own_one on1 (Int32.ofNat j1) (Int32.ofNat j1)) + (own_one zJ15_0 (Int32.ofNat j2) (Int32.ofNat j1))) + (own_one zJ17_0 (Int32.ofNat j3) (Int32.ofNat j1))) + (own_one zJ19_0 (Int32.ofNat j4) (Int32.ofNat j1))))] [(.int (Int32.ofNat jq)), (.ref a)]))
                refine Go.static X45 hx hZ (y := (⟨"com/example/tundra_ascent/tundraascent/rules/DisplayPawnsOfPinLaw", "animal", "(I)Lcom/example/tundra_ascent/tundraascent/rules/Animal;"⟩ : MethodName)) (argsL := [(.int (Int32.ofNat jq))]) hown (hw _ (List.mem_of_getElem? (i := 35) rfl)) (hw _ (List.mem_of_getElem? (i := 36) rfl)) (hw _ (List.mem_of_getElem? (i := 2) rfl)) (hw _ (List.mem_of_getElem? (i := 37) rfl)) (by decide) 1 e45 (rm9 l Z a0 hw (Int32.ofNat jq) jq p0 p1 p2 p3 p4 p5 hJ37 n0 Zs Od hjq rfl SA_0 SA_1 SA_2 SA_3 SA_4 SA_5) (by decide) (by decide) (by decide) (by decide) (g := (mkF m 436 #[.val (.int x1), .val (.int x2), .val (.int x3), .val (.int x4), .val (.int x5), .val (.int (Int32.ofNat k1)), .val (.int (Int32.ofNat k2)), .val (.int (Int32.ofNat k3)), .val (.int (Int32.ofNat k4)), .val (.int sp1), .val (.int sp2), .val (.int sp3), .val (.int sp4), .val (.int (Int32.ofNat j1)), .val (.int (Int32.ofNat j2)), .val (.int (Int32.ofNat j3)), .val (.int (Int32.ofNat j4)), .val (.int (Int32.ofNat jq)), .val (.int on1), .val (.int zJ15_0), .val (.int zJ17_0), .val (.int zJ19_0), .val (.ref a), .val (.int ((((own_one on1 (Int32.ofNat j1) (Int32.ofNat jq)) + (own_one zJ15_0 (Int32.ofNat j2) (Int32.ofNat jq))) + (own_one zJ17_0 (Int32.ofNat j3) (Int32.ofNat jq))) + (own_one zJ19_0 (Int32.ofNat j4) (Int32.ofNat jq)))), .val (.int ((((own_one on1 (Int32.ofNat j1) (Int32.ofNat j1)) + (own_one zJ15_0 (Int32.ofNat j2) (Int32.ofNat j1))) + (own_one zJ17_0 (Int32.ofNat j3) (Int32.ofNat j1))) + (own_one zJ19_0 (Int32.ofNat j4) (Int32.ofNat j1))))] [(.int (Int32.ofNat jq)), (.ref a)])) rfl (by rw [hml]; rfl) (rest := [(.ref a)]) (lenOf pd9 rfl) rfl (by show 2 * 0 + _ ≤ _; exact Nat.le_of_eq rfl) (hb hby at_436) ?_
                intro T46 v46 L46 X46 q46
                obtain ⟨rfl, Nq46, e46⟩ := q46
                have N46 := Fr.app N45 Nq46
                show Go _ _ _ _ _ _ _ (T46.setTop (mkF m 439 #[.val (.int x1), .val (.int x2), .val (.int x3), .val (.int x4), .val (.int x5), .val (.int (Int32.ofNat k1)), .val (.int (Int32.ofNat k2)), .val (.int (Int32.ofNat k3)), .val (.int (Int32.ofNat k4)), .val (.int sp1), .val (.int sp2), .val (.int sp3), .val (.int sp4), .val (.int (Int32.ofNat j1)), .val (.int (Int32.ofNat j2)), .val (.int (Int32.ofNat j3)), .val (.int (Int32.ofNat j4)), .val (.int (Int32.ofNat jq)), .val (.int on1), .val (.int zJ15_0), .val (.int zJ17_0), .val (.int zJ19_0), .val (.ref a), .val (.int ((((own_one on1 (Int32.ofNat j1) (Int32.ofNat jq)) + (own_one zJ15_0 (Int32.ofNat j2) (Int32.ofNat jq))) + (own_one zJ17_0 (Int32.ofNat j3) (Int32.ofNat jq))) + (own_one zJ19_0 (Int32.ofNat j4) (Int32.ofNat jq)))), .val (.int ((((own_one on1 (Int32.ofNat j1) (Int32.ofNat j1)) + (own_one zJ15_0 (Int32.ofNat j2) (Int32.ofNat j1))) + (own_one zJ17_0 (Int32.ofNat j3) (Int32.ofNat j1))) + (own_one zJ19_0 (Int32.ofNat j4) (Int32.ofNat j1))))] [(.ref (own_an jq p0 p1 p2 p3 p4 p5)), (.ref a)]))
                refine Go.virtual X46 hx hZ (y := (⟨"com/example/tundra_ascent/tundraascent/rules/Display", "pawnsOf", "(Lcom/example/tundra_ascent/tundraascent/rules/Animal;)I"⟩ : MethodName)) (z := (⟨"com/example/tundra_ascent/tundraascent/rules/Display", "pawnsOf", "(Lcom/example/tundra_ascent/tundraascent/rules/Animal;)I"⟩ : MethodName)) (a := a) (argsL := [(.ref (own_an jq p0 p1 p2 p3 p4 p5))]) hown (hw _ (List.mem_of_getElem? (i := 41) rfl)) (hw _ (List.mem_of_getElem? (i := 42) rfl)) (notFace_of_selects (args := #[]) (mvT hZ (hw _ (List.mem_of_getElem? (i := 44) rfl)))) (hw _ (List.mem_of_getElem? (i := 44) rfl)) (hw _ (List.mem_of_getElem? (i := 43) rfl)) (hw _ (List.mem_of_getElem? (i := 19) rfl)) (hw _ (List.mem_of_getElem? (i := 45) rfl)) (by decide) 0 e46 E_a (rm10 l Z a0 hw a (own_an jq p0 p1 p2 p3 p4 p5) pw kp (own_put (own_put (own_put (own_put (fun _ => Value.null) on1 (own_idx k1 sp1) (own_an j1 p0 p1 p2 p3 p4 p5)) zJ15_0 (own_idx k2 sp2) (own_an j2 p0 p1 p2 p3 p4 p5)) zJ17_0 (own_idx k3 sp3) (own_an j3 p0 p1 p2 p3 p4 p5)) zJ19_0 (own_idx k4 sp4) (own_an j4 p0 p1 p2 p3 p4 p5)) hJ37 n0 Zs F_a_pawns A_pw (own_put_ref (own_put_ref (own_put_ref (own_put_ref (fun _ => rfl)))))) (by decide) (by decide) (by decide) (by decide) (g := (mkF m 439 #[.val (.int x1), .val (.int x2), .val (.int x3), .val (.int x4), .val (.int x5), .val (.int (Int32.ofNat k1)), .val (.int (Int32.ofNat k2)), .val (.int (Int32.ofNat k3)), .val (.int (Int32.ofNat k4)), .val (.int sp1), .val (.int sp2), .val (.int sp3), .val (.int sp4), .val (.int (Int32.ofNat j1)), .val (.int (Int32.ofNat j2)), .val (.int (Int32.ofNat j3)), .val (.int (Int32.ofNat j4)), .val (.int (Int32.ofNat jq)), .val (.int on1), .val (.int zJ15_0), .val (.int zJ17_0), .val (.int zJ19_0), .val (.ref a), .val (.int ((((own_one on1 (Int32.ofNat j1) (Int32.ofNat jq)) + (own_one zJ15_0 (Int32.ofNat j2) (Int32.ofNat jq))) + (own_one zJ17_0 (Int32.ofNat j3) (Int32.ofNat jq))) + (own_one zJ19_0 (Int32.ofNat j4) (Int32.ofNat jq)))), .val (.int ((((own_one on1 (Int32.ofNat j1) (Int32.ofNat j1)) + (own_one zJ15_0 (Int32.ofNat j2) (Int32.ofNat j1))) + (own_one zJ17_0 (Int32.ofNat j3) (Int32.ofNat j1))) + (own_one zJ19_0 (Int32.ofNat j4) (Int32.ofNat j1))))] [(.ref (own_an jq p0 p1 p2 p3 p4 p5)), (.ref a)])) rfl (by rw [hml]; rfl) (rest := []) (lenOf pd12 rfl) rfl (by show 2 * 0 + _ ≤ _; exact Nat.le_of_eq rfl) (hb hby at_439) ?_
                intro T47 v47 L47 X47 q47
                obtain ⟨rfl, Nq47, e47⟩ := q47
                have N47 := Fr.app N46 Nq47
                show Go _ _ _ _ _ _ _ (T47.setTop (mkF m 442 #[.val (.int x1), .val (.int x2), .val (.int x3), .val (.int x4), .val (.int x5), .val (.int (Int32.ofNat k1)), .val (.int (Int32.ofNat k2)), .val (.int (Int32.ofNat k3)), .val (.int (Int32.ofNat k4)), .val (.int sp1), .val (.int sp2), .val (.int sp3), .val (.int sp4), .val (.int (Int32.ofNat j1)), .val (.int (Int32.ofNat j2)), .val (.int (Int32.ofNat j3)), .val (.int (Int32.ofNat j4)), .val (.int (Int32.ofNat jq)), .val (.int on1), .val (.int zJ15_0), .val (.int zJ17_0), .val (.int zJ19_0), .val (.ref a), .val (.int ((((own_one on1 (Int32.ofNat j1) (Int32.ofNat jq)) + (own_one zJ15_0 (Int32.ofNat j2) (Int32.ofNat jq))) + (own_one zJ17_0 (Int32.ofNat j3) (Int32.ofNat jq))) + (own_one zJ19_0 (Int32.ofNat j4) (Int32.ofNat jq)))), .val (.int ((((own_one on1 (Int32.ofNat j1) (Int32.ofNat j1)) + (own_one zJ15_0 (Int32.ofNat j2) (Int32.ofNat j1))) + (own_one zJ17_0 (Int32.ofNat j3) (Int32.ofNat j1))) + (own_one zJ19_0 (Int32.ofNat j4) (Int32.ofNat j1))))] [(.int (own_cnt (own_put (own_put (own_put (own_put (fun _ => Value.null) on1 (own_idx k1 sp1) (own_an j1 p0 p1 p2 p3 p4 p5)) zJ15_0 (own_idx k2 sp2) (own_an j2 p0 p1 p2 p3 p4 p5)) zJ17_0 (own_idx k3 sp3) (own_an j3 p0 p1 p2 p3 p4 p5)) zJ19_0 (own_idx k4 sp4) (own_an j4 p0 p1 p2 p3 p4 p5)) (.ref (own_an jq p0 p1 p2 p3 p4 p5)) 41))]))
                refine Go.of (fun _ q => XS.iload X47.here hx rfl (hb hby at_442) rfl q) ?_
                show Go _ _ _ _ _ _ _ (T47.setTop (mkF m 444 #[.val (.int x1), .val (.int x2), .val (.int x3), .val (.int x4), .val (.int x5), .val (.int (Int32.ofNat k1)), .val (.int (Int32.ofNat k2)), .val (.int (Int32.ofNat k3)), .val (.int (Int32.ofNat k4)), .val (.int sp1), .val (.int sp2), .val (.int sp3), .val (.int sp4), .val (.int (Int32.ofNat j1)), .val (.int (Int32.ofNat j2)), .val (.int (Int32.ofNat j3)), .val (.int (Int32.ofNat j4)), .val (.int (Int32.ofNat jq)), .val (.int on1), .val (.int zJ15_0), .val (.int zJ17_0), .val (.int zJ19_0), .val (.ref a), .val (.int ((((own_one on1 (Int32.ofNat j1) (Int32.ofNat jq)) + (own_one zJ15_0 (Int32.ofNat j2) (Int32.ofNat jq))) + (own_one zJ17_0 (Int32.ofNat j3) (Int32.ofNat jq))) + (own_one zJ19_0 (Int32.ofNat j4) (Int32.ofNat jq)))), .val (.int ((((own_one on1 (Int32.ofNat j1) (Int32.ofNat j1)) + (own_one zJ15_0 (Int32.ofNat j2) (Int32.ofNat j1))) + (own_one zJ17_0 (Int32.ofNat j3) (Int32.ofNat j1))) + (own_one zJ19_0 (Int32.ofNat j4) (Int32.ofNat j1))))] [(.int ((((own_one on1 (Int32.ofNat j1) (Int32.ofNat jq)) + (own_one zJ15_0 (Int32.ofNat j2) (Int32.ofNat jq))) + (own_one zJ17_0 (Int32.ofNat j3) (Int32.ofNat jq))) + (own_one zJ19_0 (Int32.ofNat j4) (Int32.ofNat jq)))), (.int (own_cnt (own_put (own_put (own_put (own_put (fun _ => Value.null) on1 (own_idx k1 sp1) (own_an j1 p0 p1 p2 p3 p4 p5)) zJ15_0 (own_idx k2 sp2) (own_an j2 p0 p1 p2 p3 p4 p5)) zJ17_0 (own_idx k3 sp3) (own_an j3 p0 p1 p2 p3 p4 p5)) zJ19_0 (own_idx k4 sp4) (own_an j4 p0 p1 p2 p3 p4 p5)) (.ref (own_an jq p0 p1 p2 p3 p4 p5)) 41))]))
                refine Go.of (fun _ q => XS.icmpNo X47.here hx rfl (hb hby at_444) rfl (teq (by rw [own_put_cnt (u := Int32.ofNat j4) (v := Int32.ofNat jq) N4 (own_idx_lt hk4 (own_spb _ hk4 hsp4).1 (own_spb _ hk4 hsp4).2).1 (HD j4 jq hj4 hjq), own_put_cnt (u := Int32.ofNat j3) (v := Int32.ofNat jq) N3 (own_idx_lt hk3 (own_spb _ hk3 hsp3).1 (own_spb _ hk3 hsp3).2).1 (HD j3 jq hj3 hjq), own_put_cnt (u := Int32.ofNat j2) (v := Int32.ofNat jq) N2 (own_idx_lt hk2 (own_spb _ hk2 hsp2).1 (own_spb _ hk2 hsp2).2).1 (HD j2 jq hj2 hjq), own_put_cnt (u := Int32.ofNat j1) (v := Int32.ofNat jq) N1 (own_idx_lt hk1 (own_spb _ hk1 hsp1).1 (own_spb _ hk1 hsp1).2).1 (HD j1 jq hj1 hjq), own_cnt_nul _ _ (by simp), Int32.zero_add])).2 q) ?_
                show Go _ _ _ _ _ _ _ (T47.setTop (mkF m 447 #[.val (.int x1), .val (.int x2), .val (.int x3), .val (.int x4), .val (.int x5), .val (.int (Int32.ofNat k1)), .val (.int (Int32.ofNat k2)), .val (.int (Int32.ofNat k3)), .val (.int (Int32.ofNat k4)), .val (.int sp1), .val (.int sp2), .val (.int sp3), .val (.int sp4), .val (.int (Int32.ofNat j1)), .val (.int (Int32.ofNat j2)), .val (.int (Int32.ofNat j3)), .val (.int (Int32.ofNat j4)), .val (.int (Int32.ofNat jq)), .val (.int on1), .val (.int zJ15_0), .val (.int zJ17_0), .val (.int zJ19_0), .val (.ref a), .val (.int ((((own_one on1 (Int32.ofNat j1) (Int32.ofNat jq)) + (own_one zJ15_0 (Int32.ofNat j2) (Int32.ofNat jq))) + (own_one zJ17_0 (Int32.ofNat j3) (Int32.ofNat jq))) + (own_one zJ19_0 (Int32.ofNat j4) (Int32.ofNat jq)))), .val (.int ((((own_one on1 (Int32.ofNat j1) (Int32.ofNat j1)) + (own_one zJ15_0 (Int32.ofNat j2) (Int32.ofNat j1))) + (own_one zJ17_0 (Int32.ofNat j3) (Int32.ofNat j1))) + (own_one zJ19_0 (Int32.ofNat j4) (Int32.ofNat j1))))] []))
                refine Go.of (fun _ q => XS.aload X47.here hx rfl (hb hby at_447) rfl rfl q) ?_
                show Go _ _ _ _ _ _ _ (T47.setTop (mkF m 449 #[.val (.int x1), .val (.int x2), .val (.int x3), .val (.int x4), .val (.int x5), .val (.int (Int32.ofNat k1)), .val (.int (Int32.ofNat k2)), .val (.int (Int32.ofNat k3)), .val (.int (Int32.ofNat k4)), .val (.int sp1), .val (.int sp2), .val (.int sp3), .val (.int sp4), .val (.int (Int32.ofNat j1)), .val (.int (Int32.ofNat j2)), .val (.int (Int32.ofNat j3)), .val (.int (Int32.ofNat j4)), .val (.int (Int32.ofNat jq)), .val (.int on1), .val (.int zJ15_0), .val (.int zJ17_0), .val (.int zJ19_0), .val (.ref a), .val (.int ((((own_one on1 (Int32.ofNat j1) (Int32.ofNat jq)) + (own_one zJ15_0 (Int32.ofNat j2) (Int32.ofNat jq))) + (own_one zJ17_0 (Int32.ofNat j3) (Int32.ofNat jq))) + (own_one zJ19_0 (Int32.ofNat j4) (Int32.ofNat jq)))), .val (.int ((((own_one on1 (Int32.ofNat j1) (Int32.ofNat j1)) + (own_one zJ15_0 (Int32.ofNat j2) (Int32.ofNat j1))) + (own_one zJ17_0 (Int32.ofNat j3) (Int32.ofNat j1))) + (own_one zJ19_0 (Int32.ofNat j4) (Int32.ofNat j1))))] [(.ref a)]))
                refine Go.of (fun _ q => XS.iload X47.here hx rfl (hb hby at_449) rfl q) ?_
                show Go _ _ _ _ _ _ _ (T47.setTop (mkF m 451 #[.val (.int x1), .val (.int x2), .val (.int x3), .val (.int x4), .val (.int x5), .val (.int (Int32.ofNat k1)), .val (.int (Int32.ofNat k2)), .val (.int (Int32.ofNat k3)), .val (.int (Int32.ofNat k4)), .val (.int sp1), .val (.int sp2), .val (.int sp3), .val (.int sp4), .val (.int (Int32.ofNat j1)), .val (.int (Int32.ofNat j2)), .val (.int (Int32.ofNat j3)), .val (.int (Int32.ofNat j4)), .val (.int (Int32.ofNat jq)), .val (.int on1), .val (.int zJ15_0), .val (.int zJ17_0), .val (.int zJ19_0), .val (.ref a), .val (.int ((((own_one on1 (Int32.ofNat j1) (Int32.ofNat jq)) + (own_one zJ15_0 (Int32.ofNat j2) (Int32.ofNat jq))) + (own_one zJ17_0 (Int32.ofNat j3) (Int32.ofNat jq))) + (own_one zJ19_0 (Int32.ofNat j4) (Int32.ofNat jq)))), .val (.int ((((own_one on1 (Int32.ofNat j1) (Int32.ofNat j1)) + (own_one zJ15_0 (Int32.ofNat j2) (Int32.ofNat j1))) + (own_one zJ17_0 (Int32.ofNat j3) (Int32.ofNat j1))) + (own_one zJ19_0 (Int32.ofNat j4) (Int32.ofNat j1))))] [(.int (Int32.ofNat j1)), (.ref a)]))
                refine Go.static X47 hx hZ (y := (⟨"com/example/tundra_ascent/tundraascent/rules/DisplayPawnsOfPinLaw", "animal", "(I)Lcom/example/tundra_ascent/tundraascent/rules/Animal;"⟩ : MethodName)) (argsL := [(.int (Int32.ofNat j1))]) hown (hw _ (List.mem_of_getElem? (i := 35) rfl)) (hw _ (List.mem_of_getElem? (i := 36) rfl)) (hw _ (List.mem_of_getElem? (i := 2) rfl)) (hw _ (List.mem_of_getElem? (i := 37) rfl)) (by decide) 1 e47 (rm9 l Z a0 hw (Int32.ofNat j1) j1 p0 p1 p2 p3 p4 p5 hJ37 n0 Zs Od hj1 rfl SA_0 SA_1 SA_2 SA_3 SA_4 SA_5) (by decide) (by decide) (by decide) (by decide) (g := (mkF m 451 #[.val (.int x1), .val (.int x2), .val (.int x3), .val (.int x4), .val (.int x5), .val (.int (Int32.ofNat k1)), .val (.int (Int32.ofNat k2)), .val (.int (Int32.ofNat k3)), .val (.int (Int32.ofNat k4)), .val (.int sp1), .val (.int sp2), .val (.int sp3), .val (.int sp4), .val (.int (Int32.ofNat j1)), .val (.int (Int32.ofNat j2)), .val (.int (Int32.ofNat j3)), .val (.int (Int32.ofNat j4)), .val (.int (Int32.ofNat jq)), .val (.int on1), .val (.int zJ15_0), .val (.int zJ17_0), .val (.int zJ19_0), .val (.ref a), .val (.int ((((own_one on1 (Int32.ofNat j1) (Int32.ofNat jq)) + (own_one zJ15_0 (Int32.ofNat j2) (Int32.ofNat jq))) + (own_one zJ17_0 (Int32.ofNat j3) (Int32.ofNat jq))) + (own_one zJ19_0 (Int32.ofNat j4) (Int32.ofNat jq)))), .val (.int ((((own_one on1 (Int32.ofNat j1) (Int32.ofNat j1)) + (own_one zJ15_0 (Int32.ofNat j2) (Int32.ofNat j1))) + (own_one zJ17_0 (Int32.ofNat j3) (Int32.ofNat j1))) + (own_one zJ19_0 (Int32.ofNat j4) (Int32.ofNat j1))))] [(.int (Int32.ofNat j1)), (.ref a)])) rfl (by rw [hml]; rfl) (rest := [(.ref a)]) (lenOf pd9 rfl) rfl (by show 2 * 0 + _ ≤ _; exact Nat.le_of_eq rfl) (hb hby at_451) ?_
                intro T48 v48 L48 X48 q48
                obtain ⟨rfl, Nq48, e48⟩ := q48
                have N48 := Fr.app N47 Nq48
                show Go _ _ _ _ _ _ _ (T48.setTop (mkF m 454 #[.val (.int x1), .val (.int x2), .val (.int x3), .val (.int x4), .val (.int x5), .val (.int (Int32.ofNat k1)), .val (.int (Int32.ofNat k2)), .val (.int (Int32.ofNat k3)), .val (.int (Int32.ofNat k4)), .val (.int sp1), .val (.int sp2), .val (.int sp3), .val (.int sp4), .val (.int (Int32.ofNat j1)), .val (.int (Int32.ofNat j2)), .val (.int (Int32.ofNat j3)), .val (.int (Int32.ofNat j4)), .val (.int (Int32.ofNat jq)), .val (.int on1), .val (.int zJ15_0), .val (.int zJ17_0), .val (.int zJ19_0), .val (.ref a), .val (.int ((((own_one on1 (Int32.ofNat j1) (Int32.ofNat jq)) + (own_one zJ15_0 (Int32.ofNat j2) (Int32.ofNat jq))) + (own_one zJ17_0 (Int32.ofNat j3) (Int32.ofNat jq))) + (own_one zJ19_0 (Int32.ofNat j4) (Int32.ofNat jq)))), .val (.int ((((own_one on1 (Int32.ofNat j1) (Int32.ofNat j1)) + (own_one zJ15_0 (Int32.ofNat j2) (Int32.ofNat j1))) + (own_one zJ17_0 (Int32.ofNat j3) (Int32.ofNat j1))) + (own_one zJ19_0 (Int32.ofNat j4) (Int32.ofNat j1))))] [(.ref (own_an j1 p0 p1 p2 p3 p4 p5)), (.ref a)]))
                refine Go.virtual X48 hx hZ (y := (⟨"com/example/tundra_ascent/tundraascent/rules/Display", "pawnsOf", "(Lcom/example/tundra_ascent/tundraascent/rules/Animal;)I"⟩ : MethodName)) (z := (⟨"com/example/tundra_ascent/tundraascent/rules/Display", "pawnsOf", "(Lcom/example/tundra_ascent/tundraascent/rules/Animal;)I"⟩ : MethodName)) (a := a) (argsL := [(.ref (own_an j1 p0 p1 p2 p3 p4 p5))]) hown (hw _ (List.mem_of_getElem? (i := 41) rfl)) (hw _ (List.mem_of_getElem? (i := 42) rfl)) (notFace_of_selects (args := #[]) (mvT hZ (hw _ (List.mem_of_getElem? (i := 44) rfl)))) (hw _ (List.mem_of_getElem? (i := 44) rfl)) (hw _ (List.mem_of_getElem? (i := 43) rfl)) (hw _ (List.mem_of_getElem? (i := 19) rfl)) (hw _ (List.mem_of_getElem? (i := 45) rfl)) (by decide) 0 e48 E_a (rm10 l Z a0 hw a (own_an j1 p0 p1 p2 p3 p4 p5) pw kp (own_put (own_put (own_put (own_put (fun _ => Value.null) on1 (own_idx k1 sp1) (own_an j1 p0 p1 p2 p3 p4 p5)) zJ15_0 (own_idx k2 sp2) (own_an j2 p0 p1 p2 p3 p4 p5)) zJ17_0 (own_idx k3 sp3) (own_an j3 p0 p1 p2 p3 p4 p5)) zJ19_0 (own_idx k4 sp4) (own_an j4 p0 p1 p2 p3 p4 p5)) hJ37 n0 Zs F_a_pawns A_pw (own_put_ref (own_put_ref (own_put_ref (own_put_ref (fun _ => rfl)))))) (by decide) (by decide) (by decide) (by decide) (g := (mkF m 454 #[.val (.int x1), .val (.int x2), .val (.int x3), .val (.int x4), .val (.int x5), .val (.int (Int32.ofNat k1)), .val (.int (Int32.ofNat k2)), .val (.int (Int32.ofNat k3)), .val (.int (Int32.ofNat k4)), .val (.int sp1), .val (.int sp2), .val (.int sp3), .val (.int sp4), .val (.int (Int32.ofNat j1)), .val (.int (Int32.ofNat j2)), .val (.int (Int32.ofNat j3)), .val (.int (Int32.ofNat j4)), .val (.int (Int32.ofNat jq)), .val (.int on1), .val (.int zJ15_0), .val (.int zJ17_0), .val (.int zJ19_0), .val (.ref a), .val (.int ((((own_one on1 (Int32.ofNat j1) (Int32.ofNat jq)) + (own_one zJ15_0 (Int32.ofNat j2) (Int32.ofNat jq))) + (own_one zJ17_0 (Int32.ofNat j3) (Int32.ofNat jq))) + (own_one zJ19_0 (Int32.ofNat j4) (Int32.ofNat jq)))), .val (.int ((((own_one on1 (Int32.ofNat j1) (Int32.ofNat j1)) + (own_one zJ15_0 (Int32.ofNat j2) (Int32.ofNat j1))) + (own_one zJ17_0 (Int32.ofNat j3) (Int32.ofNat j1))) + (own_one zJ19_0 (Int32.ofNat j4) (Int32.ofNat j1))))] [(.ref (own_an j1 p0 p1 p2 p3 p4 p5)), (.ref a)])) rfl (by rw [hml]; rfl) (rest := []) (lenOf pd12 rfl) rfl (by show 2 * 0 + _ ≤ _; exact Nat.le_of_eq rfl) (hb hby at_454) ?_
                intro T49 v49 L49 X49 q49
                obtain ⟨rfl, Nq49, e49⟩ := q49
                have N49 := Fr.app N48 Nq49
                show Go _ _ _ _ _ _ _ (T49.setTop (mkF m 457 #[.val (.int x1), .val (.int x2), .val (.int x3), .val (.int x4), .val (.int x5), .val (.int (Int32.ofNat k1)), .val (.int (Int32.ofNat k2)), .val (.int (Int32.ofNat k3)), .val (.int (Int32.ofNat k4)), .val (.int sp1), .val (.int sp2), .val (.int sp3), .val (.int sp4), .val (.int (Int32.ofNat j1)), .val (.int (Int32.ofNat j2)), .val (.int (Int32.ofNat j3)), .val (.int (Int32.ofNat j4)), .val (.int (Int32.ofNat jq)), .val (.int on1), .val (.int zJ15_0), .val (.int zJ17_0), .val (.int zJ19_0), .val (.ref a), .val (.int ((((own_one on1 (Int32.ofNat j1) (Int32.ofNat jq)) + (own_one zJ15_0 (Int32.ofNat j2) (Int32.ofNat jq))) + (own_one zJ17_0 (Int32.ofNat j3) (Int32.ofNat jq))) + (own_one zJ19_0 (Int32.ofNat j4) (Int32.ofNat jq)))), .val (.int ((((own_one on1 (Int32.ofNat j1) (Int32.ofNat j1)) + (own_one zJ15_0 (Int32.ofNat j2) (Int32.ofNat j1))) + (own_one zJ17_0 (Int32.ofNat j3) (Int32.ofNat j1))) + (own_one zJ19_0 (Int32.ofNat j4) (Int32.ofNat j1))))] [(.int (own_cnt (own_put (own_put (own_put (own_put (fun _ => Value.null) on1 (own_idx k1 sp1) (own_an j1 p0 p1 p2 p3 p4 p5)) zJ15_0 (own_idx k2 sp2) (own_an j2 p0 p1 p2 p3 p4 p5)) zJ17_0 (own_idx k3 sp3) (own_an j3 p0 p1 p2 p3 p4 p5)) zJ19_0 (own_idx k4 sp4) (own_an j4 p0 p1 p2 p3 p4 p5)) (.ref (own_an j1 p0 p1 p2 p3 p4 p5)) 41))]))
                refine Go.of (fun _ q => XS.iload X49.here hx rfl (hb hby at_457) rfl q) ?_
                show Go _ _ _ _ _ _ _ (T49.setTop (mkF m 459 #[.val (.int x1), .val (.int x2), .val (.int x3), .val (.int x4), .val (.int x5), .val (.int (Int32.ofNat k1)), .val (.int (Int32.ofNat k2)), .val (.int (Int32.ofNat k3)), .val (.int (Int32.ofNat k4)), .val (.int sp1), .val (.int sp2), .val (.int sp3), .val (.int sp4), .val (.int (Int32.ofNat j1)), .val (.int (Int32.ofNat j2)), .val (.int (Int32.ofNat j3)), .val (.int (Int32.ofNat j4)), .val (.int (Int32.ofNat jq)), .val (.int on1), .val (.int zJ15_0), .val (.int zJ17_0), .val (.int zJ19_0), .val (.ref a), .val (.int ((((own_one on1 (Int32.ofNat j1) (Int32.ofNat jq)) + (own_one zJ15_0 (Int32.ofNat j2) (Int32.ofNat jq))) + (own_one zJ17_0 (Int32.ofNat j3) (Int32.ofNat jq))) + (own_one zJ19_0 (Int32.ofNat j4) (Int32.ofNat jq)))), .val (.int ((((own_one on1 (Int32.ofNat j1) (Int32.ofNat j1)) + (own_one zJ15_0 (Int32.ofNat j2) (Int32.ofNat j1))) + (own_one zJ17_0 (Int32.ofNat j3) (Int32.ofNat j1))) + (own_one zJ19_0 (Int32.ofNat j4) (Int32.ofNat j1))))] [(.int ((((own_one on1 (Int32.ofNat j1) (Int32.ofNat j1)) + (own_one zJ15_0 (Int32.ofNat j2) (Int32.ofNat j1))) + (own_one zJ17_0 (Int32.ofNat j3) (Int32.ofNat j1))) + (own_one zJ19_0 (Int32.ofNat j4) (Int32.ofNat j1)))), (.int (own_cnt (own_put (own_put (own_put (own_put (fun _ => Value.null) on1 (own_idx k1 sp1) (own_an j1 p0 p1 p2 p3 p4 p5)) zJ15_0 (own_idx k2 sp2) (own_an j2 p0 p1 p2 p3 p4 p5)) zJ17_0 (own_idx k3 sp3) (own_an j3 p0 p1 p2 p3 p4 p5)) zJ19_0 (own_idx k4 sp4) (own_an j4 p0 p1 p2 p3 p4 p5)) (.ref (own_an j1 p0 p1 p2 p3 p4 p5)) 41))]))
                refine Go.of (fun _ q => XS.icmpNo X49.here hx rfl (hb hby at_459) rfl (teq (by rw [own_put_cnt (u := Int32.ofNat j4) (v := Int32.ofNat j1) N4 (own_idx_lt hk4 (own_spb _ hk4 hsp4).1 (own_spb _ hk4 hsp4).2).1 (HD j4 j1 hj4 hj1), own_put_cnt (u := Int32.ofNat j3) (v := Int32.ofNat j1) N3 (own_idx_lt hk3 (own_spb _ hk3 hsp3).1 (own_spb _ hk3 hsp3).2).1 (HD j3 j1 hj3 hj1), own_put_cnt (u := Int32.ofNat j2) (v := Int32.ofNat j1) N2 (own_idx_lt hk2 (own_spb _ hk2 hsp2).1 (own_spb _ hk2 hsp2).2).1 (HD j2 j1 hj2 hj1), own_put_cnt (u := Int32.ofNat j1) (v := Int32.ofNat j1) N1 (own_idx_lt hk1 (own_spb _ hk1 hsp1).1 (own_spb _ hk1 hsp1).2).1 (HD j1 j1 hj1 hj1), own_cnt_nul _ _ (by simp), Int32.zero_add])).2 q) ?_
                show Go _ _ _ _ _ _ _ (T49.setTop (mkF m 462 #[.val (.int x1), .val (.int x2), .val (.int x3), .val (.int x4), .val (.int x5), .val (.int (Int32.ofNat k1)), .val (.int (Int32.ofNat k2)), .val (.int (Int32.ofNat k3)), .val (.int (Int32.ofNat k4)), .val (.int sp1), .val (.int sp2), .val (.int sp3), .val (.int sp4), .val (.int (Int32.ofNat j1)), .val (.int (Int32.ofNat j2)), .val (.int (Int32.ofNat j3)), .val (.int (Int32.ofNat j4)), .val (.int (Int32.ofNat jq)), .val (.int on1), .val (.int zJ15_0), .val (.int zJ17_0), .val (.int zJ19_0), .val (.ref a), .val (.int ((((own_one on1 (Int32.ofNat j1) (Int32.ofNat jq)) + (own_one zJ15_0 (Int32.ofNat j2) (Int32.ofNat jq))) + (own_one zJ17_0 (Int32.ofNat j3) (Int32.ofNat jq))) + (own_one zJ19_0 (Int32.ofNat j4) (Int32.ofNat jq)))), .val (.int ((((own_one on1 (Int32.ofNat j1) (Int32.ofNat j1)) + (own_one zJ15_0 (Int32.ofNat j2) (Int32.ofNat j1))) + (own_one zJ17_0 (Int32.ofNat j3) (Int32.ofNat j1))) + (own_one zJ19_0 (Int32.ofNat j4) (Int32.ofNat j1))))] []))
                refine Go.of (fun _ q => XS.iconst X49.here hx rfl (hb hby at_462) q) ?_
                show Go _ _ _ _ _ _ _ (T49.setTop (mkF m 463 #[.val (.int x1), .val (.int x2), .val (.int x3), .val (.int x4), .val (.int x5), .val (.int (Int32.ofNat k1)), .val (.int (Int32.ofNat k2)), .val (.int (Int32.ofNat k3)), .val (.int (Int32.ofNat k4)), .val (.int sp1), .val (.int sp2), .val (.int sp3), .val (.int sp4), .val (.int (Int32.ofNat j1)), .val (.int (Int32.ofNat j2)), .val (.int (Int32.ofNat j3)), .val (.int (Int32.ofNat j4)), .val (.int (Int32.ofNat jq)), .val (.int on1), .val (.int zJ15_0), .val (.int zJ17_0), .val (.int zJ19_0), .val (.ref a), .val (.int ((((own_one on1 (Int32.ofNat j1) (Int32.ofNat jq)) + (own_one zJ15_0 (Int32.ofNat j2) (Int32.ofNat jq))) + (own_one zJ17_0 (Int32.ofNat j3) (Int32.ofNat jq))) + (own_one zJ19_0 (Int32.ofNat j4) (Int32.ofNat jq)))), .val (.int ((((own_one on1 (Int32.ofNat j1) (Int32.ofNat j1)) + (own_one zJ15_0 (Int32.ofNat j2) (Int32.ofNat j1))) + (own_one zJ17_0 (Int32.ofNat j3) (Int32.ofNat j1))) + (own_one zJ19_0 (Int32.ofNat j4) (Int32.ofNat j1))))] [(.int (1 : Int32))]))
                refine Go.of (fun _ q => XS.goto X49.here hx rfl (pc0 := 463) (pc' := 467) rfl (hb hby at_463) (by decide) (by decide) q) ?_
                show Go _ _ _ _ _ _ _ (T49.setTop (mkF m 467 #[.val (.int x1), .val (.int x2), .val (.int x3), .val (.int x4), .val (.int x5), .val (.int (Int32.ofNat k1)), .val (.int (Int32.ofNat k2)), .val (.int (Int32.ofNat k3)), .val (.int (Int32.ofNat k4)), .val (.int sp1), .val (.int sp2), .val (.int sp3), .val (.int sp4), .val (.int (Int32.ofNat j1)), .val (.int (Int32.ofNat j2)), .val (.int (Int32.ofNat j3)), .val (.int (Int32.ofNat j4)), .val (.int (Int32.ofNat jq)), .val (.int on1), .val (.int zJ15_0), .val (.int zJ17_0), .val (.int zJ19_0), .val (.ref a), .val (.int ((((own_one on1 (Int32.ofNat j1) (Int32.ofNat jq)) + (own_one zJ15_0 (Int32.ofNat j2) (Int32.ofNat jq))) + (own_one zJ17_0 (Int32.ofNat j3) (Int32.ofNat jq))) + (own_one zJ19_0 (Int32.ofNat j4) (Int32.ofNat jq)))), .val (.int ((((own_one on1 (Int32.ofNat j1) (Int32.ofNat j1)) + (own_one zJ15_0 (Int32.ofNat j2) (Int32.ofNat j1))) + (own_one zJ17_0 (Int32.ofNat j3) (Int32.ofNat j1))) + (own_one zJ19_0 (Int32.ofNat j4) (Int32.ofNat j1))))] [(.int (1 : Int32))]))
                refine Go.retN X49 hx hlk (t := .boolean) hret (by simp) (hb hby at_467) rfl (by decide) (by decide) ?_
                rw [e49]
                exact ⟨rfl, N49⟩
              by_cases c330 : zJ19_0 = (0 : Int32)
              · refine Go.of (fun _ q => XS.ifYes XJ33.here hx rfl (pc0 := 330) (pc' := 350) rfl (hb hby at_330) rfl ((if0 _ _).trans (teq c330).1) (by decide) (by decide) q) ?_
                show Go _ _ _ _ _ _ _ (TJ33.setTop (mkF m 350 #[.val (.int x1), .val (.int x2), .val (.int x3), .val (.int x4), .val (.int x5), .val (.int (Int32.ofNat k1)), .val (.int (Int32.ofNat k2)), .val (.int (Int32.ofNat k3)), .val (.int (Int32.ofNat k4)), .val (.int sp1), .val (.int sp2), .val (.int sp3), .val (.int sp4), .val (.int (Int32.ofNat j1)), .val (.int (Int32.ofNat j2)), .val (.int (Int32.ofNat j3)), .val (.int (Int32.ofNat j4)), .val (.int (Int32.ofNat jq)), .val (.int on1), .val (.int zJ15_0), .val (.int zJ17_0), .val (.int zJ19_0), .val (.ref a), .unset, .unset] []))
                exact J37 TJ33 _ _ _ _ (pad XJ33 (by decide) (by decide)) eJ33 NJ33 Zs Kp Od E_a F_a_pawns F_a_occupied A_pw (by rw [if_pos c330])
              · refine Go.of (fun _ q => XS.ifNo XJ33.here hx rfl (hb hby at_330) rfl ((if0 _ _).trans (feq c330).1) q) ?_
                show Go _ _ _ _ _ _ _ (TJ33.setTop (mkF m 333 #[.val (.int x1), .val (.int x2), .val (.int x3), .val (.int x4), .val (.int x5), .val (.int (Int32.ofNat k1)), .val (.int (Int32.ofNat k2)), .val (.int (Int32.ofNat k3)), .val (.int (Int32.ofNat k4)), .val (.int sp1), .val (.int sp2), .val (.int sp3), .val (.int sp4), .val (.int (Int32.ofNat j1)), .val (.int (Int32.ofNat j2)), .val (.int (Int32.ofNat j3)), .val (.int (Int32.ofNat j4)), .val (.int (Int32.ofNat jq)), .val (.int on1), .val (.int zJ15_0), .val (.int zJ17_0), .val (.int zJ19_0), .val (.ref a), .unset, .unset] []))
                refine Go.of (fun _ q => XS.aload XJ33.here hx rfl (hb hby at_333) rfl rfl q) ?_
                show Go _ _ _ _ _ _ _ (TJ33.setTop (mkF m 335 #[.val (.int x1), .val (.int x2), .val (.int x3), .val (.int x4), .val (.int x5), .val (.int (Int32.ofNat k1)), .val (.int (Int32.ofNat k2)), .val (.int (Int32.ofNat k3)), .val (.int (Int32.ofNat k4)), .val (.int sp1), .val (.int sp2), .val (.int sp3), .val (.int sp4), .val (.int (Int32.ofNat j1)), .val (.int (Int32.ofNat j2)), .val (.int (Int32.ofNat j3)), .val (.int (Int32.ofNat j4)), .val (.int (Int32.ofNat jq)), .val (.int on1), .val (.int zJ15_0), .val (.int zJ17_0), .val (.int zJ19_0), .val (.ref a), .unset, .unset] [(.ref a)]))
                refine Go.of (fun _ q => XS.iload XJ33.here hx rfl (hb hby at_335) rfl q) ?_
                show Go _ _ _ _ _ _ _ (TJ33.setTop (mkF m 337 #[.val (.int x1), .val (.int x2), .val (.int x3), .val (.int x4), .val (.int x5), .val (.int (Int32.ofNat k1)), .val (.int (Int32.ofNat k2)), .val (.int (Int32.ofNat k3)), .val (.int (Int32.ofNat k4)), .val (.int sp1), .val (.int sp2), .val (.int sp3), .val (.int sp4), .val (.int (Int32.ofNat j1)), .val (.int (Int32.ofNat j2)), .val (.int (Int32.ofNat j3)), .val (.int (Int32.ofNat j4)), .val (.int (Int32.ofNat jq)), .val (.int on1), .val (.int zJ15_0), .val (.int zJ17_0), .val (.int zJ19_0), .val (.ref a), .unset, .unset] [(.int (Int32.ofNat k4)), (.ref a)]))
                refine Go.static XJ33 hx hZ (y := (⟨"com/example/tundra_ascent/tundraascent/rules/DisplayPawnsOfPinLaw", "section", "(I)Lcom/example/tundra_ascent/tundraascent/rules/Section;"⟩ : MethodName)) (argsL := [(.int (Int32.ofNat k4))]) hown (hw _ (List.mem_of_getElem? (i := 50) rfl)) (hw _ (List.mem_of_getElem? (i := 51) rfl)) (hw _ (List.mem_of_getElem? (i := 2) rfl)) (hw _ (List.mem_of_getElem? (i := 52) rfl)) (by decide) 1 eJ33 (rm11 l Z a0 hw (Int32.ofNat k4) k4 q0 q1 q2 q3 q4 q5 q6 q7 q8 q9 q10 q11 hJ33 n0 Zs Od hk4 rfl SS_0 SS_1 SS_2 SS_3 SS_4 SS_5 SS_6 SS_7 SS_8 SS_9 SS_10 SS_11) (by decide) (by decide) (by decide) (by decide) (g := (mkF m 337 #[.val (.int x1), .val (.int x2), .val (.int x3), .val (.int x4), .val (.int x5), .val (.int (Int32.ofNat k1)), .val (.int (Int32.ofNat k2)), .val (.int (Int32.ofNat k3)), .val (.int (Int32.ofNat k4)), .val (.int sp1), .val (.int sp2), .val (.int sp3), .val (.int sp4), .val (.int (Int32.ofNat j1)), .val (.int (Int32.ofNat j2)), .val (.int (Int32.ofNat j3)), .val (.int (Int32.ofNat j4)), .val (.int (Int32.ofNat jq)), .val (.int on1), .val (.int zJ15_0), .val (.int zJ17_0), .val (.int zJ19_0), .val (.ref a), .unset, .unset] [(.int (Int32.ofNat k4)), (.ref a)])) rfl (by rw [hml]; rfl) (rest := [(.ref a)]) (lenOf pd8 rfl) rfl (by show 2 * 0 + _ ≤ _; exact Nat.le_of_eq rfl) (hb hby at_337) ?_
                intro T34 v34 L34 X34 q34
                obtain ⟨rfl, Nq34, e34⟩ := q34
                have N34 := Fr.app NJ33 Nq34
                show Go _ _ _ _ _ _ _ (T34.setTop (mkF m 340 #[.val (.int x1), .val (.int x2), .val (.int x3), .val (.int x4), .val (.int x5), .val (.int (Int32.ofNat k1)), .val (.int (Int32.ofNat k2)), .val (.int (Int32.ofNat k3)), .val (.int (Int32.ofNat k4)), .val (.int sp1), .val (.int sp2), .val (.int sp3), .val (.int sp4), .val (.int (Int32.ofNat j1)), .val (.int (Int32.ofNat j2)), .val (.int (Int32.ofNat j3)), .val (.int (Int32.ofNat j4)), .val (.int (Int32.ofNat jq)), .val (.int on1), .val (.int zJ15_0), .val (.int zJ17_0), .val (.int zJ19_0), .val (.ref a), .unset, .unset] [(.ref (own_sec k4 q0 q1 q2 q3 q4 q5 q6 q7 q8 q9 q10 q11)), (.ref a)]))
                refine Go.of (fun _ q => XS.iload X34.here hx rfl (hb hby at_340) rfl q) ?_
                show Go _ _ _ _ _ _ _ (T34.setTop (mkF m 342 #[.val (.int x1), .val (.int x2), .val (.int x3), .val (.int x4), .val (.int x5), .val (.int (Int32.ofNat k1)), .val (.int (Int32.ofNat k2)), .val (.int (Int32.ofNat k3)), .val (.int (Int32.ofNat k4)), .val (.int sp1), .val (.int sp2), .val (.int sp3), .val (.int sp4), .val (.int (Int32.ofNat j1)), .val (.int (Int32.ofNat j2)), .val (.int (Int32.ofNat j3)), .val (.int (Int32.ofNat j4)), .val (.int (Int32.ofNat jq)), .val (.int on1), .val (.int zJ15_0), .val (.int zJ17_0), .val (.int zJ19_0), .val (.ref a), .unset, .unset] [(.int sp4), (.ref (own_sec k4 q0 q1 q2 q3 q4 q5 q6 q7 q8 q9 q10 q11)), (.ref a)]))
                refine Go.of (fun _ q => XS.iload X34.here hx rfl (hb hby at_342) rfl q) ?_
                show Go _ _ _ _ _ _ _ (T34.setTop (mkF m 344 #[.val (.int x1), .val (.int x2), .val (.int x3), .val (.int x4), .val (.int x5), .val (.int (Int32.ofNat k1)), .val (.int (Int32.ofNat k2)), .val (.int (Int32.ofNat k3)), .val (.int (Int32.ofNat k4)), .val (.int sp1), .val (.int sp2), .val (.int sp3), .val (.int sp4), .val (.int (Int32.ofNat j1)), .val (.int (Int32.ofNat j2)), .val (.int (Int32.ofNat j3)), .val (.int (Int32.ofNat j4)), .val (.int (Int32.ofNat jq)), .val (.int on1), .val (.int zJ15_0), .val (.int zJ17_0), .val (.int zJ19_0), .val (.ref a), .unset, .unset] [(.int (Int32.ofNat j4)), (.int sp4), (.ref (own_sec k4 q0 q1 q2 q3 q4 q5 q6 q7 q8 q9 q10 q11)), (.ref a)]))
                refine Go.static X34 hx hZ (y := (⟨"com/example/tundra_ascent/tundraascent/rules/DisplayPawnsOfPinLaw", "animal", "(I)Lcom/example/tundra_ascent/tundraascent/rules/Animal;"⟩ : MethodName)) (argsL := [(.int (Int32.ofNat j4))]) hown (hw _ (List.mem_of_getElem? (i := 35) rfl)) (hw _ (List.mem_of_getElem? (i := 36) rfl)) (hw _ (List.mem_of_getElem? (i := 2) rfl)) (hw _ (List.mem_of_getElem? (i := 37) rfl)) (by decide) 3 e34 (rm9 l Z a0 hw (Int32.ofNat j4) j4 p0 p1 p2 p3 p4 p5 hJ33 n0 Zs Od hj4 rfl SA_0 SA_1 SA_2 SA_3 SA_4 SA_5) (by decide) (by decide) (by decide) (by decide) (g := (mkF m 344 #[.val (.int x1), .val (.int x2), .val (.int x3), .val (.int x4), .val (.int x5), .val (.int (Int32.ofNat k1)), .val (.int (Int32.ofNat k2)), .val (.int (Int32.ofNat k3)), .val (.int (Int32.ofNat k4)), .val (.int sp1), .val (.int sp2), .val (.int sp3), .val (.int sp4), .val (.int (Int32.ofNat j1)), .val (.int (Int32.ofNat j2)), .val (.int (Int32.ofNat j3)), .val (.int (Int32.ofNat j4)), .val (.int (Int32.ofNat jq)), .val (.int on1), .val (.int zJ15_0), .val (.int zJ17_0), .val (.int zJ19_0), .val (.ref a), .unset, .unset] [(.int (Int32.ofNat j4)), (.int sp4), (.ref (own_sec k4 q0 q1 q2 q3 q4 q5 q6 q7 q8 q9 q10 q11)), (.ref a)])) rfl (by rw [hml]; rfl) (rest := [(.int sp4), (.ref (own_sec k4 q0 q1 q2 q3 q4 q5 q6 q7 q8 q9 q10 q11)), (.ref a)]) (lenOf pd9 rfl) rfl (by show 2 * 0 + _ ≤ _; exact Nat.le_of_eq rfl) (hb hby at_344) ?_
                intro T35 v35 L35 X35 q35
                obtain ⟨rfl, Nq35, e35⟩ := q35
                have N35 := Fr.app N34 Nq35
                have E_sc := Exa.ext Od.2 (HS k4 hk4).1
                have F_sc_o := Fld.ext Od.2 (HS k4 hk4).2.1
                have F_sc_e := Fld.ext Od.2 (HS k4 hk4).2.2
                have E_an := Exa.ext Od.2 (HA j4 hj4)
                have own_d14 : ¬ on1 = (0 : Int32) → ¬ (k1 = k4 ∧ sp1 = sp4) := own_df14 hzJ19_0 c330
                have own_d24 : ¬ zJ15_0 = (0 : Int32) → ¬ (k2 = k4 ∧ sp2 = sp4) := own_df24 hzJ19_0 c330
                have own_d34 : ¬ zJ17_0 = (0 : Int32) → ¬ (k3 = k4 ∧ sp3 = sp4) := own_df34 hzJ19_0 c330
                show Go _ _ _ _ _ _ _ (T35.setTop (mkF m 347 #[.val (.int x1), .val (.int x2), .val (.int x3), .val (.int x4), .val (.int x5), .val (.int (Int32.ofNat k1)), .val (.int (Int32.ofNat k2)), .val (.int (Int32.ofNat k3)), .val (.int (Int32.ofNat k4)), .val (.int sp1), .val (.int sp2), .val (.int sp3), .val (.int sp4), .val (.int (Int32.ofNat j1)), .val (.int (Int32.ofNat j2)), .val (.int (Int32.ofNat j3)), .val (.int (Int32.ofNat j4)), .val (.int (Int32.ofNat jq)), .val (.int on1), .val (.int zJ15_0), .val (.int zJ17_0), .val (.int zJ19_0), .val (.ref a), .unset, .unset] [(.ref (own_an j4 p0 p1 p2 p3 p4 p5)), (.int sp4), (.ref (own_sec k4 q0 q1 q2 q3 q4 q5 q6 q7 q8 q9 q10 q11)), (.ref a)]))
                refine Go.virtual X35 hx hZ (y := (⟨"com/example/tundra_ascent/tundraascent/rules/Display", "place", "(Lcom/example/tundra_ascent/tundraascent/rules/Section;ILcom/example/tundra_ascent/tundraascent/rules/Animal;)V"⟩ : MethodName)) (z := (⟨"com/example/tundra_ascent/tundraascent/rules/Display", "place", "(Lcom/example/tundra_ascent/tundraascent/rules/Section;ILcom/example/tundra_ascent/tundraascent/rules/Animal;)V"⟩ : MethodName)) (a := a) (argsL := [(.ref (own_sec k4 q0 q1 q2 q3 q4 q5 q6 q7 q8 q9 q10 q11)), (.int sp4), (.ref (own_an j4 p0 p1 p2 p3 p4 p5))]) hown (hw _ (List.mem_of_getElem? (i := 58) rfl)) (hw _ (List.mem_of_getElem? (i := 59) rfl)) (notFace_of_selects (args := #[]) (mvT hZ (hw _ (List.mem_of_getElem? (i := 61) rfl)))) (hw _ (List.mem_of_getElem? (i := 61) rfl)) (hw _ (List.mem_of_getElem? (i := 60) rfl)) (hw _ (List.mem_of_getElem? (i := 19) rfl)) (hw _ (List.mem_of_getElem? (i := 62) rfl)) (by decide) 0 e35 E_a (rm12 l Z a0 hw a (own_sec k4 q0 q1 q2 q3 q4 q5 q6 q7 q8 q9 q10 q11) sp4 (own_an j4 p0 p1 p2 p3 p4 p5) k4 fi kf pw kp (own_put (own_put (own_put (fun _ => Value.null) on1 (own_idx k1 sp1) (own_an j1 p0 p1 p2 p3 p4 p5)) zJ15_0 (own_idx k2 sp2) (own_an j2 p0 p1 p2 p3 p4 p5)) zJ17_0 (own_idx k3 sp3) (own_an j3 p0 p1 p2 p3 p4 p5)) yJ33_occupied hJ33 n0 Zs Od E_a F_a_pawns F_a_occupied A_pw E_sc F_sc_o F_sc_e E_an g_a g_pw ne_a_pw hk4 (own_spb _ hk4 hsp4).1 (own_spb _ hk4 hsp4).2 Sfi Afi (own_put_null (own_put_null (own_put_null rfl (fun g e => (own_d14 g) (own_idx_inj hk1 hk4 (own_spb _ hk1 hsp1).1 (own_spb _ hk1 hsp1).2 (own_spb _ hk4 hsp4).1 (own_spb _ hk4 hsp4).2 e))) (fun g e => (own_d24 g) (own_idx_inj hk2 hk4 (own_spb _ hk2 hsp2).1 (own_spb _ hk2 hsp2).2 (own_spb _ hk4 hsp4).1 (own_spb _ hk4 hsp4).2 e))) (fun g e => (own_d34 g) (own_idx_inj hk3 hk4 (own_spb _ hk3 hsp3).1 (own_spb _ hk3 hsp3).2 (own_spb _ hk4 hsp4).1 (own_spb _ hk4 hsp4).2 e))) hov_21) (by decide) (by decide) (by decide) (by decide) (g := (mkF m 347 #[.val (.int x1), .val (.int x2), .val (.int x3), .val (.int x4), .val (.int x5), .val (.int (Int32.ofNat k1)), .val (.int (Int32.ofNat k2)), .val (.int (Int32.ofNat k3)), .val (.int (Int32.ofNat k4)), .val (.int sp1), .val (.int sp2), .val (.int sp3), .val (.int sp4), .val (.int (Int32.ofNat j1)), .val (.int (Int32.ofNat j2)), .val (.int (Int32.ofNat j3)), .val (.int (Int32.ofNat j4)), .val (.int (Int32.ofNat jq)), .val (.int on1), .val (.int zJ15_0), .val (.int zJ17_0), .val (.int zJ19_0), .val (.ref a), .unset, .unset] [(.ref (own_an j4 p0 p1 p2 p3 p4 p5)), (.int sp4), (.ref (own_sec k4 q0 q1 q2 q3 q4 q5 q6 q7 q8 q9 q10 q11)), (.ref a)])) rfl (by rw [hml]; rfl) (rest := []) (lenOf pd10 rfl) rfl (by show 2 * 0 + _ ≤ _; exact Nat.le_of_eq rfl) (hb hby at_347) ?_
                intro T36 v36 L36 X36 q36
                obtain ⟨zo4, rfl, Nq36, K36, f36_0, f36_1, f36_2, f36_3⟩ := q36
                have N36 := Fr.app N35 Nq36
                have Zs := Nat.le_trans Zs K36.1
                have Kp := Kp.trans K36 (allS (P := fun x => x ∈ [] ∨ h0.size ≤ x) (Or.inr sz_a) (allS (P := fun x => x ∈ [] ∨ h0.size ≤ x) (Or.inr sz_pw) all0))
                have Od := Od.keep K36 (allS (P := fun x => n0 ≤ x) g_a (allS (P := fun x => n0 ≤ x) g_pw all0))
                have E_a := E_a.keep K36
                have F_a_pawns := f36_1
                have F_a_occupied := f36_2
                have A_pw := f36_3
                show Go _ _ _ _ _ _ _ (T36.setTop (mkF m 350 #[.val (.int x1), .val (.int x2), .val (.int x3), .val (.int x4), .val (.int x5), .val (.int (Int32.ofNat k1)), .val (.int (Int32.ofNat k2)), .val (.int (Int32.ofNat k3)), .val (.int (Int32.ofNat k4)), .val (.int sp1), .val (.int sp2), .val (.int sp3), .val (.int sp4), .val (.int (Int32.ofNat j1)), .val (.int (Int32.ofNat j2)), .val (.int (Int32.ofNat j3)), .val (.int (Int32.ofNat j4)), .val (.int (Int32.ofNat jq)), .val (.int on1), .val (.int zJ15_0), .val (.int zJ17_0), .val (.int zJ19_0), .val (.ref a), .unset, .unset] []))
                exact J37 T36 _ _ _ _ (pad X36 (by decide) (by decide)) rfl N36 Zs Kp Od E_a F_a_pawns F_a_occupied A_pw (by rw [if_neg c330])
            by_cases c308 : zJ17_0 = (0 : Int32)
            · refine Go.of (fun _ q => XS.ifYes XJ29.here hx rfl (pc0 := 308) (pc' := 328) rfl (hb hby at_308) rfl ((if0 _ _).trans (teq c308).1) (by decide) (by decide) q) ?_
              show Go _ _ _ _ _ _ _ (TJ29.setTop (mkF m 328 #[.val (.int x1), .val (.int x2), .val (.int x3), .val (.int x4), .val (.int x5), .val (.int (Int32.ofNat k1)), .val (.int (Int32.ofNat k2)), .val (.int (Int32.ofNat k3)), .val (.int (Int32.ofNat k4)), .val (.int sp1), .val (.int sp2), .val (.int sp3), .val (.int sp4), .val (.int (Int32.ofNat j1)), .val (.int (Int32.ofNat j2)), .val (.int (Int32.ofNat j3)), .val (.int (Int32.ofNat j4)), .val (.int (Int32.ofNat jq)), .val (.int on1), .val (.int zJ15_0), .val (.int zJ17_0), .val (.int zJ19_0), .val (.ref a), .unset, .unset] []))
              exact J33 TJ29 _ _ _ _ (pad XJ29 (by decide) (by decide)) eJ29 NJ29 Zs Kp Od E_a F_a_pawns F_a_occupied A_pw (by rw [if_pos c308])
            · refine Go.of (fun _ q => XS.ifNo XJ29.here hx rfl (hb hby at_308) rfl ((if0 _ _).trans (feq c308).1) q) ?_
              show Go _ _ _ _ _ _ _ (TJ29.setTop (mkF m 311 #[.val (.int x1), .val (.int x2), .val (.int x3), .val (.int x4), .val (.int x5), .val (.int (Int32.ofNat k1)), .val (.int (Int32.ofNat k2)), .val (.int (Int32.ofNat k3)), .val (.int (Int32.ofNat k4)), .val (.int sp1), .val (.int sp2), .val (.int sp3), .val (.int sp4), .val (.int (Int32.ofNat j1)), .val (.int (Int32.ofNat j2)), .val (.int (Int32.ofNat j3)), .val (.int (Int32.ofNat j4)), .val (.int (Int32.ofNat jq)), .val (.int on1), .val (.int zJ15_0), .val (.int zJ17_0), .val (.int zJ19_0), .val (.ref a), .unset, .unset] []))
              refine Go.of (fun _ q => XS.aload XJ29.here hx rfl (hb hby at_311) rfl rfl q) ?_
              show Go _ _ _ _ _ _ _ (TJ29.setTop (mkF m 313 #[.val (.int x1), .val (.int x2), .val (.int x3), .val (.int x4), .val (.int x5), .val (.int (Int32.ofNat k1)), .val (.int (Int32.ofNat k2)), .val (.int (Int32.ofNat k3)), .val (.int (Int32.ofNat k4)), .val (.int sp1), .val (.int sp2), .val (.int sp3), .val (.int sp4), .val (.int (Int32.ofNat j1)), .val (.int (Int32.ofNat j2)), .val (.int (Int32.ofNat j3)), .val (.int (Int32.ofNat j4)), .val (.int (Int32.ofNat jq)), .val (.int on1), .val (.int zJ15_0), .val (.int zJ17_0), .val (.int zJ19_0), .val (.ref a), .unset, .unset] [(.ref a)]))
              refine Go.of (fun _ q => XS.iload XJ29.here hx rfl (hb hby at_313) rfl q) ?_
              show Go _ _ _ _ _ _ _ (TJ29.setTop (mkF m 315 #[.val (.int x1), .val (.int x2), .val (.int x3), .val (.int x4), .val (.int x5), .val (.int (Int32.ofNat k1)), .val (.int (Int32.ofNat k2)), .val (.int (Int32.ofNat k3)), .val (.int (Int32.ofNat k4)), .val (.int sp1), .val (.int sp2), .val (.int sp3), .val (.int sp4), .val (.int (Int32.ofNat j1)), .val (.int (Int32.ofNat j2)), .val (.int (Int32.ofNat j3)), .val (.int (Int32.ofNat j4)), .val (.int (Int32.ofNat jq)), .val (.int on1), .val (.int zJ15_0), .val (.int zJ17_0), .val (.int zJ19_0), .val (.ref a), .unset, .unset] [(.int (Int32.ofNat k3)), (.ref a)]))
              refine Go.static XJ29 hx hZ (y := (⟨"com/example/tundra_ascent/tundraascent/rules/DisplayPawnsOfPinLaw", "section", "(I)Lcom/example/tundra_ascent/tundraascent/rules/Section;"⟩ : MethodName)) (argsL := [(.int (Int32.ofNat k3))]) hown (hw _ (List.mem_of_getElem? (i := 50) rfl)) (hw _ (List.mem_of_getElem? (i := 51) rfl)) (hw _ (List.mem_of_getElem? (i := 2) rfl)) (hw _ (List.mem_of_getElem? (i := 52) rfl)) (by decide) 1 eJ29 (rm11 l Z a0 hw (Int32.ofNat k3) k3 q0 q1 q2 q3 q4 q5 q6 q7 q8 q9 q10 q11 hJ29 n0 Zs Od hk3 rfl SS_0 SS_1 SS_2 SS_3 SS_4 SS_5 SS_6 SS_7 SS_8 SS_9 SS_10 SS_11) (by decide) (by decide) (by decide) (by decide) (g := (mkF m 315 #[.val (.int x1), .val (.int x2), .val (.int x3), .val (.int x4), .val (.int x5), .val (.int (Int32.ofNat k1)), .val (.int (Int32.ofNat k2)), .val (.int (Int32.ofNat k3)), .val (.int (Int32.ofNat k4)), .val (.int sp1), .val (.int sp2), .val (.int sp3), .val (.int sp4), .val (.int (Int32.ofNat j1)), .val (.int (Int32.ofNat j2)), .val (.int (Int32.ofNat j3)), .val (.int (Int32.ofNat j4)), .val (.int (Int32.ofNat jq)), .val (.int on1), .val (.int zJ15_0), .val (.int zJ17_0), .val (.int zJ19_0), .val (.ref a), .unset, .unset] [(.int (Int32.ofNat k3)), (.ref a)])) rfl (by rw [hml]; rfl) (rest := [(.ref a)]) (lenOf pd8 rfl) rfl (by show 2 * 0 + _ ≤ _; exact Nat.le_of_eq rfl) (hb hby at_315) ?_
              intro T30 v30 L30 X30 q30
              obtain ⟨rfl, Nq30, e30⟩ := q30
              have N30 := Fr.app NJ29 Nq30
              show Go _ _ _ _ _ _ _ (T30.setTop (mkF m 318 #[.val (.int x1), .val (.int x2), .val (.int x3), .val (.int x4), .val (.int x5), .val (.int (Int32.ofNat k1)), .val (.int (Int32.ofNat k2)), .val (.int (Int32.ofNat k3)), .val (.int (Int32.ofNat k4)), .val (.int sp1), .val (.int sp2), .val (.int sp3), .val (.int sp4), .val (.int (Int32.ofNat j1)), .val (.int (Int32.ofNat j2)), .val (.int (Int32.ofNat j3)), .val (.int (Int32.ofNat j4)), .val (.int (Int32.ofNat jq)), .val (.int on1), .val (.int zJ15_0), .val (.int zJ17_0), .val (.int zJ19_0), .val (.ref a), .unset, .unset] [(.ref (own_sec k3 q0 q1 q2 q3 q4 q5 q6 q7 q8 q9 q10 q11)), (.ref a)]))
              refine Go.of (fun _ q => XS.iload X30.here hx rfl (hb hby at_318) rfl q) ?_
              show Go _ _ _ _ _ _ _ (T30.setTop (mkF m 320 #[.val (.int x1), .val (.int x2), .val (.int x3), .val (.int x4), .val (.int x5), .val (.int (Int32.ofNat k1)), .val (.int (Int32.ofNat k2)), .val (.int (Int32.ofNat k3)), .val (.int (Int32.ofNat k4)), .val (.int sp1), .val (.int sp2), .val (.int sp3), .val (.int sp4), .val (.int (Int32.ofNat j1)), .val (.int (Int32.ofNat j2)), .val (.int (Int32.ofNat j3)), .val (.int (Int32.ofNat j4)), .val (.int (Int32.ofNat jq)), .val (.int on1), .val (.int zJ15_0), .val (.int zJ17_0), .val (.int zJ19_0), .val (.ref a), .unset, .unset] [(.int sp3), (.ref (own_sec k3 q0 q1 q2 q3 q4 q5 q6 q7 q8 q9 q10 q11)), (.ref a)]))
              refine Go.of (fun _ q => XS.iload X30.here hx rfl (hb hby at_320) rfl q) ?_
              show Go _ _ _ _ _ _ _ (T30.setTop (mkF m 322 #[.val (.int x1), .val (.int x2), .val (.int x3), .val (.int x4), .val (.int x5), .val (.int (Int32.ofNat k1)), .val (.int (Int32.ofNat k2)), .val (.int (Int32.ofNat k3)), .val (.int (Int32.ofNat k4)), .val (.int sp1), .val (.int sp2), .val (.int sp3), .val (.int sp4), .val (.int (Int32.ofNat j1)), .val (.int (Int32.ofNat j2)), .val (.int (Int32.ofNat j3)), .val (.int (Int32.ofNat j4)), .val (.int (Int32.ofNat jq)), .val (.int on1), .val (.int zJ15_0), .val (.int zJ17_0), .val (.int zJ19_0), .val (.ref a), .unset, .unset] [(.int (Int32.ofNat j3)), (.int sp3), (.ref (own_sec k3 q0 q1 q2 q3 q4 q5 q6 q7 q8 q9 q10 q11)), (.ref a)]))
              refine Go.static X30 hx hZ (y := (⟨"com/example/tundra_ascent/tundraascent/rules/DisplayPawnsOfPinLaw", "animal", "(I)Lcom/example/tundra_ascent/tundraascent/rules/Animal;"⟩ : MethodName)) (argsL := [(.int (Int32.ofNat j3))]) hown (hw _ (List.mem_of_getElem? (i := 35) rfl)) (hw _ (List.mem_of_getElem? (i := 36) rfl)) (hw _ (List.mem_of_getElem? (i := 2) rfl)) (hw _ (List.mem_of_getElem? (i := 37) rfl)) (by decide) 3 e30 (rm9 l Z a0 hw (Int32.ofNat j3) j3 p0 p1 p2 p3 p4 p5 hJ29 n0 Zs Od hj3 rfl SA_0 SA_1 SA_2 SA_3 SA_4 SA_5) (by decide) (by decide) (by decide) (by decide) (g := (mkF m 322 #[.val (.int x1), .val (.int x2), .val (.int x3), .val (.int x4), .val (.int x5), .val (.int (Int32.ofNat k1)), .val (.int (Int32.ofNat k2)), .val (.int (Int32.ofNat k3)), .val (.int (Int32.ofNat k4)), .val (.int sp1), .val (.int sp2), .val (.int sp3), .val (.int sp4), .val (.int (Int32.ofNat j1)), .val (.int (Int32.ofNat j2)), .val (.int (Int32.ofNat j3)), .val (.int (Int32.ofNat j4)), .val (.int (Int32.ofNat jq)), .val (.int on1), .val (.int zJ15_0), .val (.int zJ17_0), .val (.int zJ19_0), .val (.ref a), .unset, .unset] [(.int (Int32.ofNat j3)), (.int sp3), (.ref (own_sec k3 q0 q1 q2 q3 q4 q5 q6 q7 q8 q9 q10 q11)), (.ref a)])) rfl (by rw [hml]; rfl) (rest := [(.int sp3), (.ref (own_sec k3 q0 q1 q2 q3 q4 q5 q6 q7 q8 q9 q10 q11)), (.ref a)]) (lenOf pd9 rfl) rfl (by show 2 * 0 + _ ≤ _; exact Nat.le_of_eq rfl) (hb hby at_322) ?_
              intro T31 v31 L31 X31 q31
              obtain ⟨rfl, Nq31, e31⟩ := q31
              have N31 := Fr.app N30 Nq31
              have E_sc := Exa.ext Od.2 (HS k3 hk3).1
              have F_sc_o := Fld.ext Od.2 (HS k3 hk3).2.1
              have F_sc_e := Fld.ext Od.2 (HS k3 hk3).2.2
              have E_an := Exa.ext Od.2 (HA j3 hj3)
              have own_d13 : ¬ on1 = (0 : Int32) → ¬ (k1 = k3 ∧ sp1 = sp3) := own_df13 hzJ17_0 c308
              have own_d23 : ¬ zJ15_0 = (0 : Int32) → ¬ (k2 = k3 ∧ sp2 = sp3) := own_df23 hzJ17_0 c308
              show Go _ _ _ _ _ _ _ (T31.setTop (mkF m 325 #[.val (.int x1), .val (.int x2), .val (.int x3), .val (.int x4), .val (.int x5), .val (.int (Int32.ofNat k1)), .val (.int (Int32.ofNat k2)), .val (.int (Int32.ofNat k3)), .val (.int (Int32.ofNat k4)), .val (.int sp1), .val (.int sp2), .val (.int sp3), .val (.int sp4), .val (.int (Int32.ofNat j1)), .val (.int (Int32.ofNat j2)), .val (.int (Int32.ofNat j3)), .val (.int (Int32.ofNat j4)), .val (.int (Int32.ofNat jq)), .val (.int on1), .val (.int zJ15_0), .val (.int zJ17_0), .val (.int zJ19_0), .val (.ref a), .unset, .unset] [(.ref (own_an j3 p0 p1 p2 p3 p4 p5)), (.int sp3), (.ref (own_sec k3 q0 q1 q2 q3 q4 q5 q6 q7 q8 q9 q10 q11)), (.ref a)]))
              refine Go.virtual X31 hx hZ (y := (⟨"com/example/tundra_ascent/tundraascent/rules/Display", "place", "(Lcom/example/tundra_ascent/tundraascent/rules/Section;ILcom/example/tundra_ascent/tundraascent/rules/Animal;)V"⟩ : MethodName)) (z := (⟨"com/example/tundra_ascent/tundraascent/rules/Display", "place", "(Lcom/example/tundra_ascent/tundraascent/rules/Section;ILcom/example/tundra_ascent/tundraascent/rules/Animal;)V"⟩ : MethodName)) (a := a) (argsL := [(.ref (own_sec k3 q0 q1 q2 q3 q4 q5 q6 q7 q8 q9 q10 q11)), (.int sp3), (.ref (own_an j3 p0 p1 p2 p3 p4 p5))]) hown (hw _ (List.mem_of_getElem? (i := 58) rfl)) (hw _ (List.mem_of_getElem? (i := 59) rfl)) (notFace_of_selects (args := #[]) (mvT hZ (hw _ (List.mem_of_getElem? (i := 61) rfl)))) (hw _ (List.mem_of_getElem? (i := 61) rfl)) (hw _ (List.mem_of_getElem? (i := 60) rfl)) (hw _ (List.mem_of_getElem? (i := 19) rfl)) (hw _ (List.mem_of_getElem? (i := 62) rfl)) (by decide) 0 e31 E_a (rm12 l Z a0 hw a (own_sec k3 q0 q1 q2 q3 q4 q5 q6 q7 q8 q9 q10 q11) sp3 (own_an j3 p0 p1 p2 p3 p4 p5) k3 fi kf pw kp (own_put (own_put (fun _ => Value.null) on1 (own_idx k1 sp1) (own_an j1 p0 p1 p2 p3 p4 p5)) zJ15_0 (own_idx k2 sp2) (own_an j2 p0 p1 p2 p3 p4 p5)) yJ29_occupied hJ29 n0 Zs Od E_a F_a_pawns F_a_occupied A_pw E_sc F_sc_o F_sc_e E_an g_a g_pw ne_a_pw hk3 (own_spb _ hk3 hsp3).1 (own_spb _ hk3 hsp3).2 Sfi Afi (own_put_null (own_put_null rfl (fun g e => (own_d13 g) (own_idx_inj hk1 hk3 (own_spb _ hk1 hsp1).1 (own_spb _ hk1 hsp1).2 (own_spb _ hk3 hsp3).1 (own_spb _ hk3 hsp3).2 e))) (fun g e => (own_d23 g) (own_idx_inj hk2 hk3 (own_spb _ hk2 hsp2).1 (own_spb _ hk2 hsp2).2 (own_spb _ hk3 hsp3).1 (own_spb _ hk3 hsp3).2 e))) hov_21) (by decide) (by decide) (by decide) (by decide) (g := (mkF m 325 #[.val (.int x1), .val (.int x2), .val (.int x3), .val (.int x4), .val (.int x5), .val (.int (Int32.ofNat k1)), .val (.int (Int32.ofNat k2)), .val (.int (Int32.ofNat k3)), .val (.int (Int32.ofNat k4)), .val (.int sp1), .val (.int sp2), .val (.int sp3), .val (.int sp4), .val (.int (Int32.ofNat j1)), .val (.int (Int32.ofNat j2)), .val (.int (Int32.ofNat j3)), .val (.int (Int32.ofNat j4)), .val (.int (Int32.ofNat jq)), .val (.int on1), .val (.int zJ15_0), .val (.int zJ17_0), .val (.int zJ19_0), .val (.ref a), .unset, .unset] [(.ref (own_an j3 p0 p1 p2 p3 p4 p5)), (.int sp3), (.ref (own_sec k3 q0 q1 q2 q3 q4 q5 q6 q7 q8 q9 q10 q11)), (.ref a)])) rfl (by rw [hml]; rfl) (rest := []) (lenOf pd10 rfl) rfl (by show 2 * 0 + _ ≤ _; exact Nat.le_of_eq rfl) (hb hby at_325) ?_
              intro T32 v32 L32 X32 q32
              obtain ⟨zo3, rfl, Nq32, K32, f32_0, f32_1, f32_2, f32_3⟩ := q32
              have N32 := Fr.app N31 Nq32
              have Zs := Nat.le_trans Zs K32.1
              have Kp := Kp.trans K32 (allS (P := fun x => x ∈ [] ∨ h0.size ≤ x) (Or.inr sz_a) (allS (P := fun x => x ∈ [] ∨ h0.size ≤ x) (Or.inr sz_pw) all0))
              have Od := Od.keep K32 (allS (P := fun x => n0 ≤ x) g_a (allS (P := fun x => n0 ≤ x) g_pw all0))
              have E_a := E_a.keep K32
              have F_a_pawns := f32_1
              have F_a_occupied := f32_2
              have A_pw := f32_3
              show Go _ _ _ _ _ _ _ (T32.setTop (mkF m 328 #[.val (.int x1), .val (.int x2), .val (.int x3), .val (.int x4), .val (.int x5), .val (.int (Int32.ofNat k1)), .val (.int (Int32.ofNat k2)), .val (.int (Int32.ofNat k3)), .val (.int (Int32.ofNat k4)), .val (.int sp1), .val (.int sp2), .val (.int sp3), .val (.int sp4), .val (.int (Int32.ofNat j1)), .val (.int (Int32.ofNat j2)), .val (.int (Int32.ofNat j3)), .val (.int (Int32.ofNat j4)), .val (.int (Int32.ofNat jq)), .val (.int on1), .val (.int zJ15_0), .val (.int zJ17_0), .val (.int zJ19_0), .val (.ref a), .unset, .unset] []))
              exact J33 T32 _ _ _ _ (pad X32 (by decide) (by decide)) rfl N32 Zs Kp Od E_a F_a_pawns F_a_occupied A_pw (by rw [if_neg c308])
          by_cases c286 : zJ15_0 = (0 : Int32)
          · refine Go.of (fun _ q => XS.ifYes XJ25.here hx rfl (pc0 := 286) (pc' := 306) rfl (hb hby at_286) rfl ((if0 _ _).trans (teq c286).1) (by decide) (by decide) q) ?_
            show Go _ _ _ _ _ _ _ (TJ25.setTop (mkF m 306 #[.val (.int x1), .val (.int x2), .val (.int x3), .val (.int x4), .val (.int x5), .val (.int (Int32.ofNat k1)), .val (.int (Int32.ofNat k2)), .val (.int (Int32.ofNat k3)), .val (.int (Int32.ofNat k4)), .val (.int sp1), .val (.int sp2), .val (.int sp3), .val (.int sp4), .val (.int (Int32.ofNat j1)), .val (.int (Int32.ofNat j2)), .val (.int (Int32.ofNat j3)), .val (.int (Int32.ofNat j4)), .val (.int (Int32.ofNat jq)), .val (.int on1), .val (.int zJ15_0), .val (.int zJ17_0), .val (.int zJ19_0), .val (.ref a), .unset, .unset] []))
            exact J29 TJ25 _ _ _ _ (pad XJ25 (by decide) (by decide)) eJ25 NJ25 Zs Kp Od E_a F_a_pawns F_a_occupied A_pw (by rw [if_pos c286])
          · refine Go.of (fun _ q => XS.ifNo XJ25.here hx rfl (hb hby at_286) rfl ((if0 _ _).trans (feq c286).1) q) ?_
            show Go _ _ _ _ _ _ _ (TJ25.setTop (mkF m 289 #[.val (.int x1), .val (.int x2), .val (.int x3), .val (.int x4), .val (.int x5), .val (.int (Int32.ofNat k1)), .val (.int (Int32.ofNat k2)), .val (.int (Int32.ofNat k3)), .val (.int (Int32.ofNat k4)), .val (.int sp1), .val (.int sp2), .val (.int sp3), .val (.int sp4), .val (.int (Int32.ofNat j1)), .val (.int (Int32.ofNat j2)), .val (.int (Int32.ofNat j3)), .val (.int (Int32.ofNat j4)), .val (.int (Int32.ofNat jq)), .val (.int on1), .val (.int zJ15_0), .val (.int zJ17_0), .val (.int zJ19_0), .val (.ref a), .unset, .unset] []))
            refine Go.of (fun _ q => XS.aload XJ25.here hx rfl (hb hby at_289) rfl rfl q) ?_
            show Go _ _ _ _ _ _ _ (TJ25.setTop (mkF m 291 #[.val (.int x1), .val (.int x2), .val (.int x3), .val (.int x4), .val (.int x5), .val (.int (Int32.ofNat k1)), .val (.int (Int32.ofNat k2)), .val (.int (Int32.ofNat k3)), .val (.int (Int32.ofNat k4)), .val (.int sp1), .val (.int sp2), .val (.int sp3), .val (.int sp4), .val (.int (Int32.ofNat j1)), .val (.int (Int32.ofNat j2)), .val (.int (Int32.ofNat j3)), .val (.int (Int32.ofNat j4)), .val (.int (Int32.ofNat jq)), .val (.int on1), .val (.int zJ15_0), .val (.int zJ17_0), .val (.int zJ19_0), .val (.ref a), .unset, .unset] [(.ref a)]))
            refine Go.of (fun _ q => XS.iload XJ25.here hx rfl (hb hby at_291) rfl q) ?_
            show Go _ _ _ _ _ _ _ (TJ25.setTop (mkF m 293 #[.val (.int x1), .val (.int x2), .val (.int x3), .val (.int x4), .val (.int x5), .val (.int (Int32.ofNat k1)), .val (.int (Int32.ofNat k2)), .val (.int (Int32.ofNat k3)), .val (.int (Int32.ofNat k4)), .val (.int sp1), .val (.int sp2), .val (.int sp3), .val (.int sp4), .val (.int (Int32.ofNat j1)), .val (.int (Int32.ofNat j2)), .val (.int (Int32.ofNat j3)), .val (.int (Int32.ofNat j4)), .val (.int (Int32.ofNat jq)), .val (.int on1), .val (.int zJ15_0), .val (.int zJ17_0), .val (.int zJ19_0), .val (.ref a), .unset, .unset] [(.int (Int32.ofNat k2)), (.ref a)]))
            refine Go.static XJ25 hx hZ (y := (⟨"com/example/tundra_ascent/tundraascent/rules/DisplayPawnsOfPinLaw", "section", "(I)Lcom/example/tundra_ascent/tundraascent/rules/Section;"⟩ : MethodName)) (argsL := [(.int (Int32.ofNat k2))]) hown (hw _ (List.mem_of_getElem? (i := 50) rfl)) (hw _ (List.mem_of_getElem? (i := 51) rfl)) (hw _ (List.mem_of_getElem? (i := 2) rfl)) (hw _ (List.mem_of_getElem? (i := 52) rfl)) (by decide) 1 eJ25 (rm11 l Z a0 hw (Int32.ofNat k2) k2 q0 q1 q2 q3 q4 q5 q6 q7 q8 q9 q10 q11 hJ25 n0 Zs Od hk2 rfl SS_0 SS_1 SS_2 SS_3 SS_4 SS_5 SS_6 SS_7 SS_8 SS_9 SS_10 SS_11) (by decide) (by decide) (by decide) (by decide) (g := (mkF m 293 #[.val (.int x1), .val (.int x2), .val (.int x3), .val (.int x4), .val (.int x5), .val (.int (Int32.ofNat k1)), .val (.int (Int32.ofNat k2)), .val (.int (Int32.ofNat k3)), .val (.int (Int32.ofNat k4)), .val (.int sp1), .val (.int sp2), .val (.int sp3), .val (.int sp4), .val (.int (Int32.ofNat j1)), .val (.int (Int32.ofNat j2)), .val (.int (Int32.ofNat j3)), .val (.int (Int32.ofNat j4)), .val (.int (Int32.ofNat jq)), .val (.int on1), .val (.int zJ15_0), .val (.int zJ17_0), .val (.int zJ19_0), .val (.ref a), .unset, .unset] [(.int (Int32.ofNat k2)), (.ref a)])) rfl (by rw [hml]; rfl) (rest := [(.ref a)]) (lenOf pd8 rfl) rfl (by show 2 * 0 + _ ≤ _; exact Nat.le_of_eq rfl) (hb hby at_293) ?_
            intro T26 v26 L26 X26 q26
            obtain ⟨rfl, Nq26, e26⟩ := q26
            have N26 := Fr.app NJ25 Nq26
            show Go _ _ _ _ _ _ _ (T26.setTop (mkF m 296 #[.val (.int x1), .val (.int x2), .val (.int x3), .val (.int x4), .val (.int x5), .val (.int (Int32.ofNat k1)), .val (.int (Int32.ofNat k2)), .val (.int (Int32.ofNat k3)), .val (.int (Int32.ofNat k4)), .val (.int sp1), .val (.int sp2), .val (.int sp3), .val (.int sp4), .val (.int (Int32.ofNat j1)), .val (.int (Int32.ofNat j2)), .val (.int (Int32.ofNat j3)), .val (.int (Int32.ofNat j4)), .val (.int (Int32.ofNat jq)), .val (.int on1), .val (.int zJ15_0), .val (.int zJ17_0), .val (.int zJ19_0), .val (.ref a), .unset, .unset] [(.ref (own_sec k2 q0 q1 q2 q3 q4 q5 q6 q7 q8 q9 q10 q11)), (.ref a)]))
            refine Go.of (fun _ q => XS.iload X26.here hx rfl (hb hby at_296) rfl q) ?_
            show Go _ _ _ _ _ _ _ (T26.setTop (mkF m 298 #[.val (.int x1), .val (.int x2), .val (.int x3), .val (.int x4), .val (.int x5), .val (.int (Int32.ofNat k1)), .val (.int (Int32.ofNat k2)), .val (.int (Int32.ofNat k3)), .val (.int (Int32.ofNat k4)), .val (.int sp1), .val (.int sp2), .val (.int sp3), .val (.int sp4), .val (.int (Int32.ofNat j1)), .val (.int (Int32.ofNat j2)), .val (.int (Int32.ofNat j3)), .val (.int (Int32.ofNat j4)), .val (.int (Int32.ofNat jq)), .val (.int on1), .val (.int zJ15_0), .val (.int zJ17_0), .val (.int zJ19_0), .val (.ref a), .unset, .unset] [(.int sp2), (.ref (own_sec k2 q0 q1 q2 q3 q4 q5 q6 q7 q8 q9 q10 q11)), (.ref a)]))
            refine Go.of (fun _ q => XS.iload X26.here hx rfl (hb hby at_298) rfl q) ?_
            show Go _ _ _ _ _ _ _ (T26.setTop (mkF m 300 #[.val (.int x1), .val (.int x2), .val (.int x3), .val (.int x4), .val (.int x5), .val (.int (Int32.ofNat k1)), .val (.int (Int32.ofNat k2)), .val (.int (Int32.ofNat k3)), .val (.int (Int32.ofNat k4)), .val (.int sp1), .val (.int sp2), .val (.int sp3), .val (.int sp4), .val (.int (Int32.ofNat j1)), .val (.int (Int32.ofNat j2)), .val (.int (Int32.ofNat j3)), .val (.int (Int32.ofNat j4)), .val (.int (Int32.ofNat jq)), .val (.int on1), .val (.int zJ15_0), .val (.int zJ17_0), .val (.int zJ19_0), .val (.ref a), .unset, .unset] [(.int (Int32.ofNat j2)), (.int sp2), (.ref (own_sec k2 q0 q1 q2 q3 q4 q5 q6 q7 q8 q9 q10 q11)), (.ref a)]))
            refine Go.static X26 hx hZ (y := (⟨"com/example/tundra_ascent/tundraascent/rules/DisplayPawnsOfPinLaw", "animal", "(I)Lcom/example/tundra_ascent/tundraascent/rules/Animal;"⟩ : MethodName)) (argsL := [(.int (Int32.ofNat j2))]) hown (hw _ (List.mem_of_getElem? (i := 35) rfl)) (hw _ (List.mem_of_getElem? (i := 36) rfl)) (hw _ (List.mem_of_getElem? (i := 2) rfl)) (hw _ (List.mem_of_getElem? (i := 37) rfl)) (by decide) 3 e26 (rm9 l Z a0 hw (Int32.ofNat j2) j2 p0 p1 p2 p3 p4 p5 hJ25 n0 Zs Od hj2 rfl SA_0 SA_1 SA_2 SA_3 SA_4 SA_5) (by decide) (by decide) (by decide) (by decide) (g := (mkF m 300 #[.val (.int x1), .val (.int x2), .val (.int x3), .val (.int x4), .val (.int x5), .val (.int (Int32.ofNat k1)), .val (.int (Int32.ofNat k2)), .val (.int (Int32.ofNat k3)), .val (.int (Int32.ofNat k4)), .val (.int sp1), .val (.int sp2), .val (.int sp3), .val (.int sp4), .val (.int (Int32.ofNat j1)), .val (.int (Int32.ofNat j2)), .val (.int (Int32.ofNat j3)), .val (.int (Int32.ofNat j4)), .val (.int (Int32.ofNat jq)), .val (.int on1), .val (.int zJ15_0), .val (.int zJ17_0), .val (.int zJ19_0), .val (.ref a), .unset, .unset] [(.int (Int32.ofNat j2)), (.int sp2), (.ref (own_sec k2 q0 q1 q2 q3 q4 q5 q6 q7 q8 q9 q10 q11)), (.ref a)])) rfl (by rw [hml]; rfl) (rest := [(.int sp2), (.ref (own_sec k2 q0 q1 q2 q3 q4 q5 q6 q7 q8 q9 q10 q11)), (.ref a)]) (lenOf pd9 rfl) rfl (by show 2 * 0 + _ ≤ _; exact Nat.le_of_eq rfl) (hb hby at_300) ?_
            intro T27 v27 L27 X27 q27
            obtain ⟨rfl, Nq27, e27⟩ := q27
            have N27 := Fr.app N26 Nq27
            have E_sc := Exa.ext Od.2 (HS k2 hk2).1
            have F_sc_o := Fld.ext Od.2 (HS k2 hk2).2.1
            have F_sc_e := Fld.ext Od.2 (HS k2 hk2).2.2
            have E_an := Exa.ext Od.2 (HA j2 hj2)
            have own_d12 : ¬ on1 = (0 : Int32) → ¬ (k1 = k2 ∧ sp1 = sp2) := own_df12 hzJ15_0 c286
            show Go _ _ _ _ _ _ _ (T27.setTop (mkF m 303 #[.val (.int x1), .val (.int x2), .val (.int x3), .val (.int x4), .val (.int x5), .val (.int (Int32.ofNat k1)), .val (.int (Int32.ofNat k2)), .val (.int (Int32.ofNat k3)), .val (.int (Int32.ofNat k4)), .val (.int sp1), .val (.int sp2), .val (.int sp3), .val (.int sp4), .val (.int (Int32.ofNat j1)), .val (.int (Int32.ofNat j2)), .val (.int (Int32.ofNat j3)), .val (.int (Int32.ofNat j4)), .val (.int (Int32.ofNat jq)), .val (.int on1), .val (.int zJ15_0), .val (.int zJ17_0), .val (.int zJ19_0), .val (.ref a), .unset, .unset] [(.ref (own_an j2 p0 p1 p2 p3 p4 p5)), (.int sp2), (.ref (own_sec k2 q0 q1 q2 q3 q4 q5 q6 q7 q8 q9 q10 q11)), (.ref a)]))
            refine Go.virtual X27 hx hZ (y := (⟨"com/example/tundra_ascent/tundraascent/rules/Display", "place", "(Lcom/example/tundra_ascent/tundraascent/rules/Section;ILcom/example/tundra_ascent/tundraascent/rules/Animal;)V"⟩ : MethodName)) (z := (⟨"com/example/tundra_ascent/tundraascent/rules/Display", "place", "(Lcom/example/tundra_ascent/tundraascent/rules/Section;ILcom/example/tundra_ascent/tundraascent/rules/Animal;)V"⟩ : MethodName)) (a := a) (argsL := [(.ref (own_sec k2 q0 q1 q2 q3 q4 q5 q6 q7 q8 q9 q10 q11)), (.int sp2), (.ref (own_an j2 p0 p1 p2 p3 p4 p5))]) hown (hw _ (List.mem_of_getElem? (i := 58) rfl)) (hw _ (List.mem_of_getElem? (i := 59) rfl)) (notFace_of_selects (args := #[]) (mvT hZ (hw _ (List.mem_of_getElem? (i := 61) rfl)))) (hw _ (List.mem_of_getElem? (i := 61) rfl)) (hw _ (List.mem_of_getElem? (i := 60) rfl)) (hw _ (List.mem_of_getElem? (i := 19) rfl)) (hw _ (List.mem_of_getElem? (i := 62) rfl)) (by decide) 0 e27 E_a (rm12 l Z a0 hw a (own_sec k2 q0 q1 q2 q3 q4 q5 q6 q7 q8 q9 q10 q11) sp2 (own_an j2 p0 p1 p2 p3 p4 p5) k2 fi kf pw kp (own_put (fun _ => Value.null) on1 (own_idx k1 sp1) (own_an j1 p0 p1 p2 p3 p4 p5)) yJ25_occupied hJ25 n0 Zs Od E_a F_a_pawns F_a_occupied A_pw E_sc F_sc_o F_sc_e E_an g_a g_pw ne_a_pw hk2 (own_spb _ hk2 hsp2).1 (own_spb _ hk2 hsp2).2 Sfi Afi (own_put_null rfl (fun g e => (own_d12 g) (own_idx_inj hk1 hk2 (own_spb _ hk1 hsp1).1 (own_spb _ hk1 hsp1).2 (own_spb _ hk2 hsp2).1 (own_spb _ hk2 hsp2).2 e))) hov_21) (by decide) (by decide) (by decide) (by decide) (g := (mkF m 303 #[.val (.int x1), .val (.int x2), .val (.int x3), .val (.int x4), .val (.int x5), .val (.int (Int32.ofNat k1)), .val (.int (Int32.ofNat k2)), .val (.int (Int32.ofNat k3)), .val (.int (Int32.ofNat k4)), .val (.int sp1), .val (.int sp2), .val (.int sp3), .val (.int sp4), .val (.int (Int32.ofNat j1)), .val (.int (Int32.ofNat j2)), .val (.int (Int32.ofNat j3)), .val (.int (Int32.ofNat j4)), .val (.int (Int32.ofNat jq)), .val (.int on1), .val (.int zJ15_0), .val (.int zJ17_0), .val (.int zJ19_0), .val (.ref a), .unset, .unset] [(.ref (own_an j2 p0 p1 p2 p3 p4 p5)), (.int sp2), (.ref (own_sec k2 q0 q1 q2 q3 q4 q5 q6 q7 q8 q9 q10 q11)), (.ref a)])) rfl (by rw [hml]; rfl) (rest := []) (lenOf pd10 rfl) rfl (by show 2 * 0 + _ ≤ _; exact Nat.le_of_eq rfl) (hb hby at_303) ?_
            intro T28 v28 L28 X28 q28
            obtain ⟨zo2, rfl, Nq28, K28, f28_0, f28_1, f28_2, f28_3⟩ := q28
            have N28 := Fr.app N27 Nq28
            have Zs := Nat.le_trans Zs K28.1
            have Kp := Kp.trans K28 (allS (P := fun x => x ∈ [] ∨ h0.size ≤ x) (Or.inr sz_a) (allS (P := fun x => x ∈ [] ∨ h0.size ≤ x) (Or.inr sz_pw) all0))
            have Od := Od.keep K28 (allS (P := fun x => n0 ≤ x) g_a (allS (P := fun x => n0 ≤ x) g_pw all0))
            have E_a := E_a.keep K28
            have F_a_pawns := f28_1
            have F_a_occupied := f28_2
            have A_pw := f28_3
            show Go _ _ _ _ _ _ _ (T28.setTop (mkF m 306 #[.val (.int x1), .val (.int x2), .val (.int x3), .val (.int x4), .val (.int x5), .val (.int (Int32.ofNat k1)), .val (.int (Int32.ofNat k2)), .val (.int (Int32.ofNat k3)), .val (.int (Int32.ofNat k4)), .val (.int sp1), .val (.int sp2), .val (.int sp3), .val (.int sp4), .val (.int (Int32.ofNat j1)), .val (.int (Int32.ofNat j2)), .val (.int (Int32.ofNat j3)), .val (.int (Int32.ofNat j4)), .val (.int (Int32.ofNat jq)), .val (.int on1), .val (.int zJ15_0), .val (.int zJ17_0), .val (.int zJ19_0), .val (.ref a), .unset, .unset] []))
            exact J29 T28 _ _ _ _ (pad X28 (by decide) (by decide)) rfl N28 Zs Kp Od E_a F_a_pawns F_a_occupied A_pw (by rw [if_neg c286])
        by_cases c264 : on1 = (0 : Int32)
        · refine Go.of (fun _ q => XS.ifYes X21.here hx rfl (pc0 := 264) (pc' := 284) rfl (hb hby at_264) rfl ((if0 _ _).trans (teq c264).1) (by decide) (by decide) q) ?_
          show Go _ _ _ _ _ _ _ (T21.setTop (mkF m 284 #[.val (.int x1), .val (.int x2), .val (.int x3), .val (.int x4), .val (.int x5), .val (.int (Int32.ofNat k1)), .val (.int (Int32.ofNat k2)), .val (.int (Int32.ofNat k3)), .val (.int (Int32.ofNat k4)), .val (.int sp1), .val (.int sp2), .val (.int sp3), .val (.int sp4), .val (.int (Int32.ofNat j1)), .val (.int (Int32.ofNat j2)), .val (.int (Int32.ofNat j3)), .val (.int (Int32.ofNat j4)), .val (.int (Int32.ofNat jq)), .val (.int on1), .val (.int zJ15_0), .val (.int zJ17_0), .val (.int zJ19_0), .val (.ref a), .unset, .unset] []))
          exact J25 T21 _ _ _ _ (pad X21 (by decide) (by decide)) rfl N21 Zs Kp Od E_a F_a_pawns F_a_occupied A_pw (by rw [if_pos c264])
        · refine Go.of (fun _ q => XS.ifNo X21.here hx rfl (hb hby at_264) rfl ((if0 _ _).trans (feq c264).1) q) ?_
          show Go _ _ _ _ _ _ _ (T21.setTop (mkF m 267 #[.val (.int x1), .val (.int x2), .val (.int x3), .val (.int x4), .val (.int x5), .val (.int (Int32.ofNat k1)), .val (.int (Int32.ofNat k2)), .val (.int (Int32.ofNat k3)), .val (.int (Int32.ofNat k4)), .val (.int sp1), .val (.int sp2), .val (.int sp3), .val (.int sp4), .val (.int (Int32.ofNat j1)), .val (.int (Int32.ofNat j2)), .val (.int (Int32.ofNat j3)), .val (.int (Int32.ofNat j4)), .val (.int (Int32.ofNat jq)), .val (.int on1), .val (.int zJ15_0), .val (.int zJ17_0), .val (.int zJ19_0), .val (.ref a), .unset, .unset] []))
          refine Go.of (fun _ q => XS.aload X21.here hx rfl (hb hby at_267) rfl rfl q) ?_
          show Go _ _ _ _ _ _ _ (T21.setTop (mkF m 269 #[.val (.int x1), .val (.int x2), .val (.int x3), .val (.int x4), .val (.int x5), .val (.int (Int32.ofNat k1)), .val (.int (Int32.ofNat k2)), .val (.int (Int32.ofNat k3)), .val (.int (Int32.ofNat k4)), .val (.int sp1), .val (.int sp2), .val (.int sp3), .val (.int sp4), .val (.int (Int32.ofNat j1)), .val (.int (Int32.ofNat j2)), .val (.int (Int32.ofNat j3)), .val (.int (Int32.ofNat j4)), .val (.int (Int32.ofNat jq)), .val (.int on1), .val (.int zJ15_0), .val (.int zJ17_0), .val (.int zJ19_0), .val (.ref a), .unset, .unset] [(.ref a)]))
          refine Go.of (fun _ q => XS.iload X21.here hx rfl (hb hby at_269) rfl q) ?_
          show Go _ _ _ _ _ _ _ (T21.setTop (mkF m 271 #[.val (.int x1), .val (.int x2), .val (.int x3), .val (.int x4), .val (.int x5), .val (.int (Int32.ofNat k1)), .val (.int (Int32.ofNat k2)), .val (.int (Int32.ofNat k3)), .val (.int (Int32.ofNat k4)), .val (.int sp1), .val (.int sp2), .val (.int sp3), .val (.int sp4), .val (.int (Int32.ofNat j1)), .val (.int (Int32.ofNat j2)), .val (.int (Int32.ofNat j3)), .val (.int (Int32.ofNat j4)), .val (.int (Int32.ofNat jq)), .val (.int on1), .val (.int zJ15_0), .val (.int zJ17_0), .val (.int zJ19_0), .val (.ref a), .unset, .unset] [(.int (Int32.ofNat k1)), (.ref a)]))
          refine Go.static X21 hx hZ (y := (⟨"com/example/tundra_ascent/tundraascent/rules/DisplayPawnsOfPinLaw", "section", "(I)Lcom/example/tundra_ascent/tundraascent/rules/Section;"⟩ : MethodName)) (argsL := [(.int (Int32.ofNat k1))]) hown (hw _ (List.mem_of_getElem? (i := 50) rfl)) (hw _ (List.mem_of_getElem? (i := 51) rfl)) (hw _ (List.mem_of_getElem? (i := 2) rfl)) (hw _ (List.mem_of_getElem? (i := 52) rfl)) (by decide) 1 rfl (rm11 l Z a0 hw (Int32.ofNat k1) k1 q0 q1 q2 q3 q4 q5 q6 q7 q8 q9 q10 q11 T21.heap n0 Zs Od hk1 rfl SS_0 SS_1 SS_2 SS_3 SS_4 SS_5 SS_6 SS_7 SS_8 SS_9 SS_10 SS_11) (by decide) (by decide) (by decide) (by decide) (g := (mkF m 271 #[.val (.int x1), .val (.int x2), .val (.int x3), .val (.int x4), .val (.int x5), .val (.int (Int32.ofNat k1)), .val (.int (Int32.ofNat k2)), .val (.int (Int32.ofNat k3)), .val (.int (Int32.ofNat k4)), .val (.int sp1), .val (.int sp2), .val (.int sp3), .val (.int sp4), .val (.int (Int32.ofNat j1)), .val (.int (Int32.ofNat j2)), .val (.int (Int32.ofNat j3)), .val (.int (Int32.ofNat j4)), .val (.int (Int32.ofNat jq)), .val (.int on1), .val (.int zJ15_0), .val (.int zJ17_0), .val (.int zJ19_0), .val (.ref a), .unset, .unset] [(.int (Int32.ofNat k1)), (.ref a)])) rfl (by rw [hml]; rfl) (rest := [(.ref a)]) (lenOf pd8 rfl) rfl (by show 2 * 0 + _ ≤ _; exact Nat.le_of_eq rfl) (hb hby at_271) ?_
          intro T22 v22 L22 X22 q22
          obtain ⟨rfl, Nq22, e22⟩ := q22
          have N22 := Fr.app N21 Nq22
          show Go _ _ _ _ _ _ _ (T22.setTop (mkF m 274 #[.val (.int x1), .val (.int x2), .val (.int x3), .val (.int x4), .val (.int x5), .val (.int (Int32.ofNat k1)), .val (.int (Int32.ofNat k2)), .val (.int (Int32.ofNat k3)), .val (.int (Int32.ofNat k4)), .val (.int sp1), .val (.int sp2), .val (.int sp3), .val (.int sp4), .val (.int (Int32.ofNat j1)), .val (.int (Int32.ofNat j2)), .val (.int (Int32.ofNat j3)), .val (.int (Int32.ofNat j4)), .val (.int (Int32.ofNat jq)), .val (.int on1), .val (.int zJ15_0), .val (.int zJ17_0), .val (.int zJ19_0), .val (.ref a), .unset, .unset] [(.ref (own_sec k1 q0 q1 q2 q3 q4 q5 q6 q7 q8 q9 q10 q11)), (.ref a)]))
          refine Go.of (fun _ q => XS.iload X22.here hx rfl (hb hby at_274) rfl q) ?_
          show Go _ _ _ _ _ _ _ (T22.setTop (mkF m 276 #[.val (.int x1), .val (.int x2), .val (.int x3), .val (.int x4), .val (.int x5), .val (.int (Int32.ofNat k1)), .val (.int (Int32.ofNat k2)), .val (.int (Int32.ofNat k3)), .val (.int (Int32.ofNat k4)), .val (.int sp1), .val (.int sp2), .val (.int sp3), .val (.int sp4), .val (.int (Int32.ofNat j1)), .val (.int (Int32.ofNat j2)), .val (.int (Int32.ofNat j3)), .val (.int (Int32.ofNat j4)), .val (.int (Int32.ofNat jq)), .val (.int on1), .val (.int zJ15_0), .val (.int zJ17_0), .val (.int zJ19_0), .val (.ref a), .unset, .unset] [(.int sp1), (.ref (own_sec k1 q0 q1 q2 q3 q4 q5 q6 q7 q8 q9 q10 q11)), (.ref a)]))
          refine Go.of (fun _ q => XS.iload X22.here hx rfl (hb hby at_276) rfl q) ?_
          show Go _ _ _ _ _ _ _ (T22.setTop (mkF m 278 #[.val (.int x1), .val (.int x2), .val (.int x3), .val (.int x4), .val (.int x5), .val (.int (Int32.ofNat k1)), .val (.int (Int32.ofNat k2)), .val (.int (Int32.ofNat k3)), .val (.int (Int32.ofNat k4)), .val (.int sp1), .val (.int sp2), .val (.int sp3), .val (.int sp4), .val (.int (Int32.ofNat j1)), .val (.int (Int32.ofNat j2)), .val (.int (Int32.ofNat j3)), .val (.int (Int32.ofNat j4)), .val (.int (Int32.ofNat jq)), .val (.int on1), .val (.int zJ15_0), .val (.int zJ17_0), .val (.int zJ19_0), .val (.ref a), .unset, .unset] [(.int (Int32.ofNat j1)), (.int sp1), (.ref (own_sec k1 q0 q1 q2 q3 q4 q5 q6 q7 q8 q9 q10 q11)), (.ref a)]))
          refine Go.static X22 hx hZ (y := (⟨"com/example/tundra_ascent/tundraascent/rules/DisplayPawnsOfPinLaw", "animal", "(I)Lcom/example/tundra_ascent/tundraascent/rules/Animal;"⟩ : MethodName)) (argsL := [(.int (Int32.ofNat j1))]) hown (hw _ (List.mem_of_getElem? (i := 35) rfl)) (hw _ (List.mem_of_getElem? (i := 36) rfl)) (hw _ (List.mem_of_getElem? (i := 2) rfl)) (hw _ (List.mem_of_getElem? (i := 37) rfl)) (by decide) 3 e22 (rm9 l Z a0 hw (Int32.ofNat j1) j1 p0 p1 p2 p3 p4 p5 T21.heap n0 Zs Od hj1 rfl SA_0 SA_1 SA_2 SA_3 SA_4 SA_5) (by decide) (by decide) (by decide) (by decide) (g := (mkF m 278 #[.val (.int x1), .val (.int x2), .val (.int x3), .val (.int x4), .val (.int x5), .val (.int (Int32.ofNat k1)), .val (.int (Int32.ofNat k2)), .val (.int (Int32.ofNat k3)), .val (.int (Int32.ofNat k4)), .val (.int sp1), .val (.int sp2), .val (.int sp3), .val (.int sp4), .val (.int (Int32.ofNat j1)), .val (.int (Int32.ofNat j2)), .val (.int (Int32.ofNat j3)), .val (.int (Int32.ofNat j4)), .val (.int (Int32.ofNat jq)), .val (.int on1), .val (.int zJ15_0), .val (.int zJ17_0), .val (.int zJ19_0), .val (.ref a), .unset, .unset] [(.int (Int32.ofNat j1)), (.int sp1), (.ref (own_sec k1 q0 q1 q2 q3 q4 q5 q6 q7 q8 q9 q10 q11)), (.ref a)])) rfl (by rw [hml]; rfl) (rest := [(.int sp1), (.ref (own_sec k1 q0 q1 q2 q3 q4 q5 q6 q7 q8 q9 q10 q11)), (.ref a)]) (lenOf pd9 rfl) rfl (by show 2 * 0 + _ ≤ _; exact Nat.le_of_eq rfl) (hb hby at_278) ?_
          intro T23 v23 L23 X23 q23
          obtain ⟨rfl, Nq23, e23⟩ := q23
          have N23 := Fr.app N22 Nq23
          have E_sc := Exa.ext Od.2 (HS k1 hk1).1
          have F_sc_o := Fld.ext Od.2 (HS k1 hk1).2.1
          have F_sc_e := Fld.ext Od.2 (HS k1 hk1).2.2
          have E_an := Exa.ext Od.2 (HA j1 hj1)
          show Go _ _ _ _ _ _ _ (T23.setTop (mkF m 281 #[.val (.int x1), .val (.int x2), .val (.int x3), .val (.int x4), .val (.int x5), .val (.int (Int32.ofNat k1)), .val (.int (Int32.ofNat k2)), .val (.int (Int32.ofNat k3)), .val (.int (Int32.ofNat k4)), .val (.int sp1), .val (.int sp2), .val (.int sp3), .val (.int sp4), .val (.int (Int32.ofNat j1)), .val (.int (Int32.ofNat j2)), .val (.int (Int32.ofNat j3)), .val (.int (Int32.ofNat j4)), .val (.int (Int32.ofNat jq)), .val (.int on1), .val (.int zJ15_0), .val (.int zJ17_0), .val (.int zJ19_0), .val (.ref a), .unset, .unset] [(.ref (own_an j1 p0 p1 p2 p3 p4 p5)), (.int sp1), (.ref (own_sec k1 q0 q1 q2 q3 q4 q5 q6 q7 q8 q9 q10 q11)), (.ref a)]))
          refine Go.virtual X23 hx hZ (y := (⟨"com/example/tundra_ascent/tundraascent/rules/Display", "place", "(Lcom/example/tundra_ascent/tundraascent/rules/Section;ILcom/example/tundra_ascent/tundraascent/rules/Animal;)V"⟩ : MethodName)) (z := (⟨"com/example/tundra_ascent/tundraascent/rules/Display", "place", "(Lcom/example/tundra_ascent/tundraascent/rules/Section;ILcom/example/tundra_ascent/tundraascent/rules/Animal;)V"⟩ : MethodName)) (a := a) (argsL := [(.ref (own_sec k1 q0 q1 q2 q3 q4 q5 q6 q7 q8 q9 q10 q11)), (.int sp1), (.ref (own_an j1 p0 p1 p2 p3 p4 p5))]) hown (hw _ (List.mem_of_getElem? (i := 58) rfl)) (hw _ (List.mem_of_getElem? (i := 59) rfl)) (notFace_of_selects (args := #[]) (mvT hZ (hw _ (List.mem_of_getElem? (i := 61) rfl)))) (hw _ (List.mem_of_getElem? (i := 61) rfl)) (hw _ (List.mem_of_getElem? (i := 60) rfl)) (hw _ (List.mem_of_getElem? (i := 19) rfl)) (hw _ (List.mem_of_getElem? (i := 62) rfl)) (by decide) 0 e23 E_a (rm12 l Z a0 hw a (own_sec k1 q0 q1 q2 q3 q4 q5 q6 q7 q8 q9 q10 q11) sp1 (own_an j1 p0 p1 p2 p3 p4 p5) k1 fi kf pw kp (fun _ => .null) (0 : Int64) T21.heap n0 Zs Od E_a F_a_pawns F_a_occupied A_pw E_sc F_sc_o F_sc_e E_an g_a g_pw ne_a_pw hk1 (own_spb _ hk1 hsp1).1 (own_spb _ hk1 hsp1).2 Sfi Afi rfl hov_21) (by decide) (by decide) (by decide) (by decide) (g := (mkF m 281 #[.val (.int x1), .val (.int x2), .val (.int x3), .val (.int x4), .val (.int x5), .val (.int (Int32.ofNat k1)), .val (.int (Int32.ofNat k2)), .val (.int (Int32.ofNat k3)), .val (.int (Int32.ofNat k4)), .val (.int sp1), .val (.int sp2), .val (.int sp3), .val (.int sp4), .val (.int (Int32.ofNat j1)), .val (.int (Int32.ofNat j2)), .val (.int (Int32.ofNat j3)), .val (.int (Int32.ofNat j4)), .val (.int (Int32.ofNat jq)), .val (.int on1), .val (.int zJ15_0), .val (.int zJ17_0), .val (.int zJ19_0), .val (.ref a), .unset, .unset] [(.ref (own_an j1 p0 p1 p2 p3 p4 p5)), (.int sp1), (.ref (own_sec k1 q0 q1 q2 q3 q4 q5 q6 q7 q8 q9 q10 q11)), (.ref a)])) rfl (by rw [hml]; rfl) (rest := []) (lenOf pd10 rfl) rfl (by show 2 * 0 + _ ≤ _; exact Nat.le_of_eq rfl) (hb hby at_281) ?_
          intro T24 v24 L24 X24 q24
          obtain ⟨zo1, rfl, Nq24, K24, f24_0, f24_1, f24_2, f24_3⟩ := q24
          have N24 := Fr.app N23 Nq24
          have Zs := Nat.le_trans Zs K24.1
          have Kp := Kp.trans K24 (allS (P := fun x => x ∈ [] ∨ h0.size ≤ x) (Or.inr sz_a) (allS (P := fun x => x ∈ [] ∨ h0.size ≤ x) (Or.inr sz_pw) all0))
          have Od := Od.keep K24 (allS (P := fun x => n0 ≤ x) g_a (allS (P := fun x => n0 ≤ x) g_pw all0))
          have E_a := E_a.keep K24
          have F_a_pawns := f24_1
          have F_a_occupied := f24_2
          have A_pw := f24_3
          show Go _ _ _ _ _ _ _ (T24.setTop (mkF m 284 #[.val (.int x1), .val (.int x2), .val (.int x3), .val (.int x4), .val (.int x5), .val (.int (Int32.ofNat k1)), .val (.int (Int32.ofNat k2)), .val (.int (Int32.ofNat k3)), .val (.int (Int32.ofNat k4)), .val (.int sp1), .val (.int sp2), .val (.int sp3), .val (.int sp4), .val (.int (Int32.ofNat j1)), .val (.int (Int32.ofNat j2)), .val (.int (Int32.ofNat j3)), .val (.int (Int32.ofNat j4)), .val (.int (Int32.ofNat jq)), .val (.int on1), .val (.int zJ15_0), .val (.int zJ17_0), .val (.int zJ19_0), .val (.ref a), .unset, .unset] []))
          exact J25 T24 _ _ _ _ (pad X24 (by decide) (by decide)) rfl N24 Zs Kp Od E_a F_a_pawns F_a_occupied A_pw (by rw [if_neg c264])
      by_cases c186 : (if (((x4.toUInt32 >>> ((24 : Int32) &&& 31).toUInt32).toInt32) &&& (1 : Int32)) = (0 : Int32) then (0 : Int32) else (1 : Int32)) = (0 : Int32)
      · refine Go.of (fun _ q => XS.ifYes X18.here hx rfl (pc0 := 186) (pc' := 250) rfl (hb hby at_186) rfl ((if0 _ _).trans (teq c186).1) (by decide) (by decide) q) ?_
        show Go _ _ _ _ _ _ _ (T18.setTop (mkF m 250 #[.val (.int x1), .val (.int x2), .val (.int x3), .val (.int x4), .val (.int x5), .val (.int (Int32.ofNat k1)), .val (.int (Int32.ofNat k2)), .val (.int (Int32.ofNat k3)), .val (.int (Int32.ofNat k4)), .val (.int sp1), .val (.int sp2), .val (.int sp3), .val (.int sp4), .val (.int (Int32.ofNat j1)), .val (.int (Int32.ofNat j2)), .val (.int (Int32.ofNat j3)), .val (.int (Int32.ofNat j4)), .val (.int (Int32.ofNat jq)), .val (.int on1), .val (.int zJ15_0), .val (.int zJ17_0), .unset, .unset, .unset, .unset] []))
        refine Go.of (fun _ q => XS.iconst X18.here hx rfl (hb hby at_250) q) ?_
        show Go _ _ _ _ _ _ _ (T18.setTop (mkF m 251 #[.val (.int x1), .val (.int x2), .val (.int x3), .val (.int x4), .val (.int x5), .val (.int (Int32.ofNat k1)), .val (.int (Int32.ofNat k2)), .val (.int (Int32.ofNat k3)), .val (.int (Int32.ofNat k4)), .val (.int sp1), .val (.int sp2), .val (.int sp3), .val (.int sp4), .val (.int (Int32.ofNat j1)), .val (.int (Int32.ofNat j2)), .val (.int (Int32.ofNat j3)), .val (.int (Int32.ofNat j4)), .val (.int (Int32.ofNat jq)), .val (.int on1), .val (.int zJ15_0), .val (.int zJ17_0), .unset, .unset, .unset, .unset] [(.int (0 : Int32))]))
        exact J19 _ (by rw [if_pos c186])
      · refine Go.of (fun _ q => XS.ifNo X18.here hx rfl (hb hby at_186) rfl ((if0 _ _).trans (feq c186).1) q) ?_
        show Go _ _ _ _ _ _ _ (T18.setTop (mkF m 189 #[.val (.int x1), .val (.int x2), .val (.int x3), .val (.int x4), .val (.int x5), .val (.int (Int32.ofNat k1)), .val (.int (Int32.ofNat k2)), .val (.int (Int32.ofNat k3)), .val (.int (Int32.ofNat k4)), .val (.int sp1), .val (.int sp2), .val (.int sp3), .val (.int sp4), .val (.int (Int32.ofNat j1)), .val (.int (Int32.ofNat j2)), .val (.int (Int32.ofNat j3)), .val (.int (Int32.ofNat j4)), .val (.int (Int32.ofNat jq)), .val (.int on1), .val (.int zJ15_0), .val (.int zJ17_0), .unset, .unset, .unset, .unset] []))
        refine Go.of (fun _ q => XS.iload X18.here hx rfl (hb hby at_189) rfl q) ?_
        show Go _ _ _ _ _ _ _ (T18.setTop (mkF m 191 #[.val (.int x1), .val (.int x2), .val (.int x3), .val (.int x4), .val (.int x5), .val (.int (Int32.ofNat k1)), .val (.int (Int32.ofNat k2)), .val (.int (Int32.ofNat k3)), .val (.int (Int32.ofNat k4)), .val (.int sp1), .val (.int sp2), .val (.int sp3), .val (.int sp4), .val (.int (Int32.ofNat j1)), .val (.int (Int32.ofNat j2)), .val (.int (Int32.ofNat j3)), .val (.int (Int32.ofNat j4)), .val (.int (Int32.ofNat jq)), .val (.int on1), .val (.int zJ15_0), .val (.int zJ17_0), .unset, .unset, .unset, .unset] [(.int on1)]))
        by_cases c191 : on1 = (0 : Int32)
        · refine Go.of (fun _ q => XS.ifYes X18.here hx rfl (pc0 := 191) (pc' := 208) rfl (hb hby at_191) rfl ((if0 _ _).trans (teq c191).1) (by decide) (by decide) q) ?_
          show Go _ _ _ _ _ _ _ (T18.setTop (mkF m 208 #[.val (.int x1), .val (.int x2), .val (.int x3), .val (.int x4), .val (.int x5), .val (.int (Int32.ofNat k1)), .val (.int (Int32.ofNat k2)), .val (.int (Int32.ofNat k3)), .val (.int (Int32.ofNat k4)), .val (.int sp1), .val (.int sp2), .val (.int sp3), .val (.int sp4), .val (.int (Int32.ofNat j1)), .val (.int (Int32.ofNat j2)), .val (.int (Int32.ofNat j3)), .val (.int (Int32.ofNat j4)), .val (.int (Int32.ofNat jq)), .val (.int on1), .val (.int zJ15_0), .val (.int zJ17_0), .unset, .unset, .unset, .unset] []))
          refine Go.of (fun _ q => XS.iload X18.here hx rfl (hb hby at_208) rfl q) ?_
          show Go _ _ _ _ _ _ _ (T18.setTop (mkF m 210 #[.val (.int x1), .val (.int x2), .val (.int x3), .val (.int x4), .val (.int x5), .val (.int (Int32.ofNat k1)), .val (.int (Int32.ofNat k2)), .val (.int (Int32.ofNat k3)), .val (.int (Int32.ofNat k4)), .val (.int sp1), .val (.int sp2), .val (.int sp3), .val (.int sp4), .val (.int (Int32.ofNat j1)), .val (.int (Int32.ofNat j2)), .val (.int (Int32.ofNat j3)), .val (.int (Int32.ofNat j4)), .val (.int (Int32.ofNat jq)), .val (.int on1), .val (.int zJ15_0), .val (.int zJ17_0), .unset, .unset, .unset, .unset] [(.int zJ15_0)]))
          by_cases c210 : zJ15_0 = (0 : Int32)
          · refine Go.of (fun _ q => XS.ifYes X18.here hx rfl (pc0 := 210) (pc' := 227) rfl (hb hby at_210) rfl ((if0 _ _).trans (teq c210).1) (by decide) (by decide) q) ?_
            show Go _ _ _ _ _ _ _ (T18.setTop (mkF m 227 #[.val (.int x1), .val (.int x2), .val (.int x3), .val (.int x4), .val (.int x5), .val (.int (Int32.ofNat k1)), .val (.int (Int32.ofNat k2)), .val (.int (Int32.ofNat k3)), .val (.int (Int32.ofNat k4)), .val (.int sp1), .val (.int sp2), .val (.int sp3), .val (.int sp4), .val (.int (Int32.ofNat j1)), .val (.int (Int32.ofNat j2)), .val (.int (Int32.ofNat j3)), .val (.int (Int32.ofNat j4)), .val (.int (Int32.ofNat jq)), .val (.int on1), .val (.int zJ15_0), .val (.int zJ17_0), .unset, .unset, .unset, .unset] []))
            refine Go.of (fun _ q => XS.iload X18.here hx rfl (hb hby at_227) rfl q) ?_
            show Go _ _ _ _ _ _ _ (T18.setTop (mkF m 229 #[.val (.int x1), .val (.int x2), .val (.int x3), .val (.int x4), .val (.int x5), .val (.int (Int32.ofNat k1)), .val (.int (Int32.ofNat k2)), .val (.int (Int32.ofNat k3)), .val (.int (Int32.ofNat k4)), .val (.int sp1), .val (.int sp2), .val (.int sp3), .val (.int sp4), .val (.int (Int32.ofNat j1)), .val (.int (Int32.ofNat j2)), .val (.int (Int32.ofNat j3)), .val (.int (Int32.ofNat j4)), .val (.int (Int32.ofNat jq)), .val (.int on1), .val (.int zJ15_0), .val (.int zJ17_0), .unset, .unset, .unset, .unset] [(.int zJ17_0)]))
            by_cases c229 : zJ17_0 = (0 : Int32)
            · refine Go.of (fun _ q => XS.ifYes X18.here hx rfl (pc0 := 229) (pc' := 246) rfl (hb hby at_229) rfl ((if0 _ _).trans (teq c229).1) (by decide) (by decide) q) ?_
              show Go _ _ _ _ _ _ _ (T18.setTop (mkF m 246 #[.val (.int x1), .val (.int x2), .val (.int x3), .val (.int x4), .val (.int x5), .val (.int (Int32.ofNat k1)), .val (.int (Int32.ofNat k2)), .val (.int (Int32.ofNat k3)), .val (.int (Int32.ofNat k4)), .val (.int sp1), .val (.int sp2), .val (.int sp3), .val (.int sp4), .val (.int (Int32.ofNat j1)), .val (.int (Int32.ofNat j2)), .val (.int (Int32.ofNat j3)), .val (.int (Int32.ofNat j4)), .val (.int (Int32.ofNat jq)), .val (.int on1), .val (.int zJ15_0), .val (.int zJ17_0), .unset, .unset, .unset, .unset] []))
              refine Go.of (fun _ q => XS.iconst X18.here hx rfl (hb hby at_246) q) ?_
              show Go _ _ _ _ _ _ _ (T18.setTop (mkF m 247 #[.val (.int x1), .val (.int x2), .val (.int x3), .val (.int x4), .val (.int x5), .val (.int (Int32.ofNat k1)), .val (.int (Int32.ofNat k2)), .val (.int (Int32.ofNat k3)), .val (.int (Int32.ofNat k4)), .val (.int sp1), .val (.int sp2), .val (.int sp3), .val (.int sp4), .val (.int (Int32.ofNat j1)), .val (.int (Int32.ofNat j2)), .val (.int (Int32.ofNat j3)), .val (.int (Int32.ofNat j4)), .val (.int (Int32.ofNat jq)), .val (.int on1), .val (.int zJ15_0), .val (.int zJ17_0), .unset, .unset, .unset, .unset] [(.int (1 : Int32))]))
              refine Go.of (fun _ q => XS.goto X18.here hx rfl (pc0 := 247) (pc' := 251) rfl (hb hby at_247) (by decide) (by decide) q) ?_
              show Go _ _ _ _ _ _ _ (T18.setTop (mkF m 251 #[.val (.int x1), .val (.int x2), .val (.int x3), .val (.int x4), .val (.int x5), .val (.int (Int32.ofNat k1)), .val (.int (Int32.ofNat k2)), .val (.int (Int32.ofNat k3)), .val (.int (Int32.ofNat k4)), .val (.int sp1), .val (.int sp2), .val (.int sp3), .val (.int sp4), .val (.int (Int32.ofNat j1)), .val (.int (Int32.ofNat j2)), .val (.int (Int32.ofNat j3)), .val (.int (Int32.ofNat j4)), .val (.int (Int32.ofNat jq)), .val (.int on1), .val (.int zJ15_0), .val (.int zJ17_0), .unset, .unset, .unset, .unset] [(.int (1 : Int32))]))
              exact J19 _ (by rw [if_neg c186, if_pos c191, if_pos c210, if_pos c229])
            · refine Go.of (fun _ q => XS.ifNo X18.here hx rfl (hb hby at_229) rfl ((if0 _ _).trans (feq c229).1) q) ?_
              show Go _ _ _ _ _ _ _ (T18.setTop (mkF m 232 #[.val (.int x1), .val (.int x2), .val (.int x3), .val (.int x4), .val (.int x5), .val (.int (Int32.ofNat k1)), .val (.int (Int32.ofNat k2)), .val (.int (Int32.ofNat k3)), .val (.int (Int32.ofNat k4)), .val (.int sp1), .val (.int sp2), .val (.int sp3), .val (.int sp4), .val (.int (Int32.ofNat j1)), .val (.int (Int32.ofNat j2)), .val (.int (Int32.ofNat j3)), .val (.int (Int32.ofNat j4)), .val (.int (Int32.ofNat jq)), .val (.int on1), .val (.int zJ15_0), .val (.int zJ17_0), .unset, .unset, .unset, .unset] []))
              refine Go.of (fun _ q => XS.iload X18.here hx rfl (hb hby at_232) rfl q) ?_
              show Go _ _ _ _ _ _ _ (T18.setTop (mkF m 234 #[.val (.int x1), .val (.int x2), .val (.int x3), .val (.int x4), .val (.int x5), .val (.int (Int32.ofNat k1)), .val (.int (Int32.ofNat k2)), .val (.int (Int32.ofNat k3)), .val (.int (Int32.ofNat k4)), .val (.int sp1), .val (.int sp2), .val (.int sp3), .val (.int sp4), .val (.int (Int32.ofNat j1)), .val (.int (Int32.ofNat j2)), .val (.int (Int32.ofNat j3)), .val (.int (Int32.ofNat j4)), .val (.int (Int32.ofNat jq)), .val (.int on1), .val (.int zJ15_0), .val (.int zJ17_0), .unset, .unset, .unset, .unset] [(.int (Int32.ofNat k3))]))
              refine Go.of (fun _ q => XS.iload X18.here hx rfl (hb hby at_234) rfl q) ?_
              show Go _ _ _ _ _ _ _ (T18.setTop (mkF m 236 #[.val (.int x1), .val (.int x2), .val (.int x3), .val (.int x4), .val (.int x5), .val (.int (Int32.ofNat k1)), .val (.int (Int32.ofNat k2)), .val (.int (Int32.ofNat k3)), .val (.int (Int32.ofNat k4)), .val (.int sp1), .val (.int sp2), .val (.int sp3), .val (.int sp4), .val (.int (Int32.ofNat j1)), .val (.int (Int32.ofNat j2)), .val (.int (Int32.ofNat j3)), .val (.int (Int32.ofNat j4)), .val (.int (Int32.ofNat jq)), .val (.int on1), .val (.int zJ15_0), .val (.int zJ17_0), .unset, .unset, .unset, .unset] [(.int (Int32.ofNat k4)), (.int (Int32.ofNat k3))]))
              by_cases c236 : (Int32.ofNat k3) = (Int32.ofNat k4)
              · refine Go.of (fun _ q => XS.icmpNo X18.here hx rfl (hb hby at_236) rfl (teq c236).2 q) ?_
                show Go _ _ _ _ _ _ _ (T18.setTop (mkF m 239 #[.val (.int x1), .val (.int x2), .val (.int x3), .val (.int x4), .val (.int x5), .val (.int (Int32.ofNat k1)), .val (.int (Int32.ofNat k2)), .val (.int (Int32.ofNat k3)), .val (.int (Int32.ofNat k4)), .val (.int sp1), .val (.int sp2), .val (.int sp3), .val (.int sp4), .val (.int (Int32.ofNat j1)), .val (.int (Int32.ofNat j2)), .val (.int (Int32.ofNat j3)), .val (.int (Int32.ofNat j4)), .val (.int (Int32.ofNat jq)), .val (.int on1), .val (.int zJ15_0), .val (.int zJ17_0), .unset, .unset, .unset, .unset] []))
                refine Go.of (fun _ q => XS.iload X18.here hx rfl (hb hby at_239) rfl q) ?_
                show Go _ _ _ _ _ _ _ (T18.setTop (mkF m 241 #[.val (.int x1), .val (.int x2), .val (.int x3), .val (.int x4), .val (.int x5), .val (.int (Int32.ofNat k1)), .val (.int (Int32.ofNat k2)), .val (.int (Int32.ofNat k3)), .val (.int (Int32.ofNat k4)), .val (.int sp1), .val (.int sp2), .val (.int sp3), .val (.int sp4), .val (.int (Int32.ofNat j1)), .val (.int (Int32.ofNat j2)), .val (.int (Int32.ofNat j3)), .val (.int (Int32.ofNat j4)), .val (.int (Int32.ofNat jq)), .val (.int on1), .val (.int zJ15_0), .val (.int zJ17_0), .unset, .unset, .unset, .unset] [(.int sp3)]))
                refine Go.of (fun _ q => XS.iload X18.here hx rfl (hb hby at_241) rfl q) ?_
                show Go _ _ _ _ _ _ _ (T18.setTop (mkF m 243 #[.val (.int x1), .val (.int x2), .val (.int x3), .val (.int x4), .val (.int x5), .val (.int (Int32.ofNat k1)), .val (.int (Int32.ofNat k2)), .val (.int (Int32.ofNat k3)), .val (.int (Int32.ofNat k4)), .val (.int sp1), .val (.int sp2), .val (.int sp3), .val (.int sp4), .val (.int (Int32.ofNat j1)), .val (.int (Int32.ofNat j2)), .val (.int (Int32.ofNat j3)), .val (.int (Int32.ofNat j4)), .val (.int (Int32.ofNat jq)), .val (.int on1), .val (.int zJ15_0), .val (.int zJ17_0), .unset, .unset, .unset, .unset] [(.int sp4), (.int sp3)]))
                by_cases c243 : sp3 = sp4
                · refine Go.of (fun _ q => XS.icmpYes X18.here hx rfl (pc0 := 243) (pc' := 250) rfl (hb hby at_243) rfl (teq c243).1 (by decide) (by decide) q) ?_
                  show Go _ _ _ _ _ _ _ (T18.setTop (mkF m 250 #[.val (.int x1), .val (.int x2), .val (.int x3), .val (.int x4), .val (.int x5), .val (.int (Int32.ofNat k1)), .val (.int (Int32.ofNat k2)), .val (.int (Int32.ofNat k3)), .val (.int (Int32.ofNat k4)), .val (.int sp1), .val (.int sp2), .val (.int sp3), .val (.int sp4), .val (.int (Int32.ofNat j1)), .val (.int (Int32.ofNat j2)), .val (.int (Int32.ofNat j3)), .val (.int (Int32.ofNat j4)), .val (.int (Int32.ofNat jq)), .val (.int on1), .val (.int zJ15_0), .val (.int zJ17_0), .unset, .unset, .unset, .unset] []))
                  refine Go.of (fun _ q => XS.iconst X18.here hx rfl (hb hby at_250) q) ?_
                  show Go _ _ _ _ _ _ _ (T18.setTop (mkF m 251 #[.val (.int x1), .val (.int x2), .val (.int x3), .val (.int x4), .val (.int x5), .val (.int (Int32.ofNat k1)), .val (.int (Int32.ofNat k2)), .val (.int (Int32.ofNat k3)), .val (.int (Int32.ofNat k4)), .val (.int sp1), .val (.int sp2), .val (.int sp3), .val (.int sp4), .val (.int (Int32.ofNat j1)), .val (.int (Int32.ofNat j2)), .val (.int (Int32.ofNat j3)), .val (.int (Int32.ofNat j4)), .val (.int (Int32.ofNat jq)), .val (.int on1), .val (.int zJ15_0), .val (.int zJ17_0), .unset, .unset, .unset, .unset] [(.int (0 : Int32))]))
                  exact J19 _ (by rw [if_neg c186, if_pos c191, if_pos c210, if_neg c229, if_pos c236, if_pos c243])
                · refine Go.of (fun _ q => XS.icmpNo X18.here hx rfl (hb hby at_243) rfl (feq c243).1 q) ?_
                  show Go _ _ _ _ _ _ _ (T18.setTop (mkF m 246 #[.val (.int x1), .val (.int x2), .val (.int x3), .val (.int x4), .val (.int x5), .val (.int (Int32.ofNat k1)), .val (.int (Int32.ofNat k2)), .val (.int (Int32.ofNat k3)), .val (.int (Int32.ofNat k4)), .val (.int sp1), .val (.int sp2), .val (.int sp3), .val (.int sp4), .val (.int (Int32.ofNat j1)), .val (.int (Int32.ofNat j2)), .val (.int (Int32.ofNat j3)), .val (.int (Int32.ofNat j4)), .val (.int (Int32.ofNat jq)), .val (.int on1), .val (.int zJ15_0), .val (.int zJ17_0), .unset, .unset, .unset, .unset] []))
                  refine Go.of (fun _ q => XS.iconst X18.here hx rfl (hb hby at_246) q) ?_
                  show Go _ _ _ _ _ _ _ (T18.setTop (mkF m 247 #[.val (.int x1), .val (.int x2), .val (.int x3), .val (.int x4), .val (.int x5), .val (.int (Int32.ofNat k1)), .val (.int (Int32.ofNat k2)), .val (.int (Int32.ofNat k3)), .val (.int (Int32.ofNat k4)), .val (.int sp1), .val (.int sp2), .val (.int sp3), .val (.int sp4), .val (.int (Int32.ofNat j1)), .val (.int (Int32.ofNat j2)), .val (.int (Int32.ofNat j3)), .val (.int (Int32.ofNat j4)), .val (.int (Int32.ofNat jq)), .val (.int on1), .val (.int zJ15_0), .val (.int zJ17_0), .unset, .unset, .unset, .unset] [(.int (1 : Int32))]))
                  refine Go.of (fun _ q => XS.goto X18.here hx rfl (pc0 := 247) (pc' := 251) rfl (hb hby at_247) (by decide) (by decide) q) ?_
                  show Go _ _ _ _ _ _ _ (T18.setTop (mkF m 251 #[.val (.int x1), .val (.int x2), .val (.int x3), .val (.int x4), .val (.int x5), .val (.int (Int32.ofNat k1)), .val (.int (Int32.ofNat k2)), .val (.int (Int32.ofNat k3)), .val (.int (Int32.ofNat k4)), .val (.int sp1), .val (.int sp2), .val (.int sp3), .val (.int sp4), .val (.int (Int32.ofNat j1)), .val (.int (Int32.ofNat j2)), .val (.int (Int32.ofNat j3)), .val (.int (Int32.ofNat j4)), .val (.int (Int32.ofNat jq)), .val (.int on1), .val (.int zJ15_0), .val (.int zJ17_0), .unset, .unset, .unset, .unset] [(.int (1 : Int32))]))
                  exact J19 _ (by rw [if_neg c186, if_pos c191, if_pos c210, if_neg c229, if_pos c236, if_neg c243])
              · refine Go.of (fun _ q => XS.icmpYes X18.here hx rfl (pc0 := 236) (pc' := 246) rfl (hb hby at_236) rfl (feq c236).2 (by decide) (by decide) q) ?_
                show Go _ _ _ _ _ _ _ (T18.setTop (mkF m 246 #[.val (.int x1), .val (.int x2), .val (.int x3), .val (.int x4), .val (.int x5), .val (.int (Int32.ofNat k1)), .val (.int (Int32.ofNat k2)), .val (.int (Int32.ofNat k3)), .val (.int (Int32.ofNat k4)), .val (.int sp1), .val (.int sp2), .val (.int sp3), .val (.int sp4), .val (.int (Int32.ofNat j1)), .val (.int (Int32.ofNat j2)), .val (.int (Int32.ofNat j3)), .val (.int (Int32.ofNat j4)), .val (.int (Int32.ofNat jq)), .val (.int on1), .val (.int zJ15_0), .val (.int zJ17_0), .unset, .unset, .unset, .unset] []))
                refine Go.of (fun _ q => XS.iconst X18.here hx rfl (hb hby at_246) q) ?_
                show Go _ _ _ _ _ _ _ (T18.setTop (mkF m 247 #[.val (.int x1), .val (.int x2), .val (.int x3), .val (.int x4), .val (.int x5), .val (.int (Int32.ofNat k1)), .val (.int (Int32.ofNat k2)), .val (.int (Int32.ofNat k3)), .val (.int (Int32.ofNat k4)), .val (.int sp1), .val (.int sp2), .val (.int sp3), .val (.int sp4), .val (.int (Int32.ofNat j1)), .val (.int (Int32.ofNat j2)), .val (.int (Int32.ofNat j3)), .val (.int (Int32.ofNat j4)), .val (.int (Int32.ofNat jq)), .val (.int on1), .val (.int zJ15_0), .val (.int zJ17_0), .unset, .unset, .unset, .unset] [(.int (1 : Int32))]))
                refine Go.of (fun _ q => XS.goto X18.here hx rfl (pc0 := 247) (pc' := 251) rfl (hb hby at_247) (by decide) (by decide) q) ?_
                show Go _ _ _ _ _ _ _ (T18.setTop (mkF m 251 #[.val (.int x1), .val (.int x2), .val (.int x3), .val (.int x4), .val (.int x5), .val (.int (Int32.ofNat k1)), .val (.int (Int32.ofNat k2)), .val (.int (Int32.ofNat k3)), .val (.int (Int32.ofNat k4)), .val (.int sp1), .val (.int sp2), .val (.int sp3), .val (.int sp4), .val (.int (Int32.ofNat j1)), .val (.int (Int32.ofNat j2)), .val (.int (Int32.ofNat j3)), .val (.int (Int32.ofNat j4)), .val (.int (Int32.ofNat jq)), .val (.int on1), .val (.int zJ15_0), .val (.int zJ17_0), .unset, .unset, .unset, .unset] [(.int (1 : Int32))]))
                exact J19 _ (by rw [if_neg c186, if_pos c191, if_pos c210, if_neg c229, if_neg c236])
          · refine Go.of (fun _ q => XS.ifNo X18.here hx rfl (hb hby at_210) rfl ((if0 _ _).trans (feq c210).1) q) ?_
            show Go _ _ _ _ _ _ _ (T18.setTop (mkF m 213 #[.val (.int x1), .val (.int x2), .val (.int x3), .val (.int x4), .val (.int x5), .val (.int (Int32.ofNat k1)), .val (.int (Int32.ofNat k2)), .val (.int (Int32.ofNat k3)), .val (.int (Int32.ofNat k4)), .val (.int sp1), .val (.int sp2), .val (.int sp3), .val (.int sp4), .val (.int (Int32.ofNat j1)), .val (.int (Int32.ofNat j2)), .val (.int (Int32.ofNat j3)), .val (.int (Int32.ofNat j4)), .val (.int (Int32.ofNat jq)), .val (.int on1), .val (.int zJ15_0), .val (.int zJ17_0), .unset, .unset, .unset, .unset] []))
            refine Go.of (fun _ q => XS.iload X18.here hx rfl (hb hby at_213) rfl q) ?_
            show Go _ _ _ _ _ _ _ (T18.setTop (mkF m 215 #[.val (.int x1), .val (.int x2), .val (.int x3), .val (.int x4), .val (.int x5), .val (.int (Int32.ofNat k1)), .val (.int (Int32.ofNat k2)), .val (.int (Int32.ofNat k3)), .val (.int (Int32.ofNat k4)), .val (.int sp1), .val (.int sp2), .val (.int sp3), .val (.int sp4), .val (.int (Int32.ofNat j1)), .val (.int (Int32.ofNat j2)), .val (.int (Int32.ofNat j3)), .val (.int (Int32.ofNat j4)), .val (.int (Int32.ofNat jq)), .val (.int on1), .val (.int zJ15_0), .val (.int zJ17_0), .unset, .unset, .unset, .unset] [(.int (Int32.ofNat k2))]))
            refine Go.of (fun _ q => XS.iload X18.here hx rfl (hb hby at_215) rfl q) ?_
            show Go _ _ _ _ _ _ _ (T18.setTop (mkF m 217 #[.val (.int x1), .val (.int x2), .val (.int x3), .val (.int x4), .val (.int x5), .val (.int (Int32.ofNat k1)), .val (.int (Int32.ofNat k2)), .val (.int (Int32.ofNat k3)), .val (.int (Int32.ofNat k4)), .val (.int sp1), .val (.int sp2), .val (.int sp3), .val (.int sp4), .val (.int (Int32.ofNat j1)), .val (.int (Int32.ofNat j2)), .val (.int (Int32.ofNat j3)), .val (.int (Int32.ofNat j4)), .val (.int (Int32.ofNat jq)), .val (.int on1), .val (.int zJ15_0), .val (.int zJ17_0), .unset, .unset, .unset, .unset] [(.int (Int32.ofNat k4)), (.int (Int32.ofNat k2))]))
            by_cases c217 : (Int32.ofNat k2) = (Int32.ofNat k4)
            · refine Go.of (fun _ q => XS.icmpNo X18.here hx rfl (hb hby at_217) rfl (teq c217).2 q) ?_
              show Go _ _ _ _ _ _ _ (T18.setTop (mkF m 220 #[.val (.int x1), .val (.int x2), .val (.int x3), .val (.int x4), .val (.int x5), .val (.int (Int32.ofNat k1)), .val (.int (Int32.ofNat k2)), .val (.int (Int32.ofNat k3)), .val (.int (Int32.ofNat k4)), .val (.int sp1), .val (.int sp2), .val (.int sp3), .val (.int sp4), .val (.int (Int32.ofNat j1)), .val (.int (Int32.ofNat j2)), .val (.int (Int32.ofNat j3)), .val (.int (Int32.ofNat j4)), .val (.int (Int32.ofNat jq)), .val (.int on1), .val (.int zJ15_0), .val (.int zJ17_0), .unset, .unset, .unset, .unset] []))
              refine Go.of (fun _ q => XS.iload X18.here hx rfl (hb hby at_220) rfl q) ?_
              show Go _ _ _ _ _ _ _ (T18.setTop (mkF m 222 #[.val (.int x1), .val (.int x2), .val (.int x3), .val (.int x4), .val (.int x5), .val (.int (Int32.ofNat k1)), .val (.int (Int32.ofNat k2)), .val (.int (Int32.ofNat k3)), .val (.int (Int32.ofNat k4)), .val (.int sp1), .val (.int sp2), .val (.int sp3), .val (.int sp4), .val (.int (Int32.ofNat j1)), .val (.int (Int32.ofNat j2)), .val (.int (Int32.ofNat j3)), .val (.int (Int32.ofNat j4)), .val (.int (Int32.ofNat jq)), .val (.int on1), .val (.int zJ15_0), .val (.int zJ17_0), .unset, .unset, .unset, .unset] [(.int sp2)]))
              refine Go.of (fun _ q => XS.iload X18.here hx rfl (hb hby at_222) rfl q) ?_
              show Go _ _ _ _ _ _ _ (T18.setTop (mkF m 224 #[.val (.int x1), .val (.int x2), .val (.int x3), .val (.int x4), .val (.int x5), .val (.int (Int32.ofNat k1)), .val (.int (Int32.ofNat k2)), .val (.int (Int32.ofNat k3)), .val (.int (Int32.ofNat k4)), .val (.int sp1), .val (.int sp2), .val (.int sp3), .val (.int sp4), .val (.int (Int32.ofNat j1)), .val (.int (Int32.ofNat j2)), .val (.int (Int32.ofNat j3)), .val (.int (Int32.ofNat j4)), .val (.int (Int32.ofNat jq)), .val (.int on1), .val (.int zJ15_0), .val (.int zJ17_0), .unset, .unset, .unset, .unset] [(.int sp4), (.int sp2)]))
              by_cases c224 : sp2 = sp4
              · refine Go.of (fun _ q => XS.icmpYes X18.here hx rfl (pc0 := 224) (pc' := 250) rfl (hb hby at_224) rfl (teq c224).1 (by decide) (by decide) q) ?_
                show Go _ _ _ _ _ _ _ (T18.setTop (mkF m 250 #[.val (.int x1), .val (.int x2), .val (.int x3), .val (.int x4), .val (.int x5), .val (.int (Int32.ofNat k1)), .val (.int (Int32.ofNat k2)), .val (.int (Int32.ofNat k3)), .val (.int (Int32.ofNat k4)), .val (.int sp1), .val (.int sp2), .val (.int sp3), .val (.int sp4), .val (.int (Int32.ofNat j1)), .val (.int (Int32.ofNat j2)), .val (.int (Int32.ofNat j3)), .val (.int (Int32.ofNat j4)), .val (.int (Int32.ofNat jq)), .val (.int on1), .val (.int zJ15_0), .val (.int zJ17_0), .unset, .unset, .unset, .unset] []))
                refine Go.of (fun _ q => XS.iconst X18.here hx rfl (hb hby at_250) q) ?_
                show Go _ _ _ _ _ _ _ (T18.setTop (mkF m 251 #[.val (.int x1), .val (.int x2), .val (.int x3), .val (.int x4), .val (.int x5), .val (.int (Int32.ofNat k1)), .val (.int (Int32.ofNat k2)), .val (.int (Int32.ofNat k3)), .val (.int (Int32.ofNat k4)), .val (.int sp1), .val (.int sp2), .val (.int sp3), .val (.int sp4), .val (.int (Int32.ofNat j1)), .val (.int (Int32.ofNat j2)), .val (.int (Int32.ofNat j3)), .val (.int (Int32.ofNat j4)), .val (.int (Int32.ofNat jq)), .val (.int on1), .val (.int zJ15_0), .val (.int zJ17_0), .unset, .unset, .unset, .unset] [(.int (0 : Int32))]))
                exact J19 _ (by rw [if_neg c186, if_pos c191, if_neg c210, if_pos c217, if_pos c224])
              · refine Go.of (fun _ q => XS.icmpNo X18.here hx rfl (hb hby at_224) rfl (feq c224).1 q) ?_
                show Go _ _ _ _ _ _ _ (T18.setTop (mkF m 227 #[.val (.int x1), .val (.int x2), .val (.int x3), .val (.int x4), .val (.int x5), .val (.int (Int32.ofNat k1)), .val (.int (Int32.ofNat k2)), .val (.int (Int32.ofNat k3)), .val (.int (Int32.ofNat k4)), .val (.int sp1), .val (.int sp2), .val (.int sp3), .val (.int sp4), .val (.int (Int32.ofNat j1)), .val (.int (Int32.ofNat j2)), .val (.int (Int32.ofNat j3)), .val (.int (Int32.ofNat j4)), .val (.int (Int32.ofNat jq)), .val (.int on1), .val (.int zJ15_0), .val (.int zJ17_0), .unset, .unset, .unset, .unset] []))
                refine Go.of (fun _ q => XS.iload X18.here hx rfl (hb hby at_227) rfl q) ?_
                show Go _ _ _ _ _ _ _ (T18.setTop (mkF m 229 #[.val (.int x1), .val (.int x2), .val (.int x3), .val (.int x4), .val (.int x5), .val (.int (Int32.ofNat k1)), .val (.int (Int32.ofNat k2)), .val (.int (Int32.ofNat k3)), .val (.int (Int32.ofNat k4)), .val (.int sp1), .val (.int sp2), .val (.int sp3), .val (.int sp4), .val (.int (Int32.ofNat j1)), .val (.int (Int32.ofNat j2)), .val (.int (Int32.ofNat j3)), .val (.int (Int32.ofNat j4)), .val (.int (Int32.ofNat jq)), .val (.int on1), .val (.int zJ15_0), .val (.int zJ17_0), .unset, .unset, .unset, .unset] [(.int zJ17_0)]))
                by_cases c229 : zJ17_0 = (0 : Int32)
                · refine Go.of (fun _ q => XS.ifYes X18.here hx rfl (pc0 := 229) (pc' := 246) rfl (hb hby at_229) rfl ((if0 _ _).trans (teq c229).1) (by decide) (by decide) q) ?_
                  show Go _ _ _ _ _ _ _ (T18.setTop (mkF m 246 #[.val (.int x1), .val (.int x2), .val (.int x3), .val (.int x4), .val (.int x5), .val (.int (Int32.ofNat k1)), .val (.int (Int32.ofNat k2)), .val (.int (Int32.ofNat k3)), .val (.int (Int32.ofNat k4)), .val (.int sp1), .val (.int sp2), .val (.int sp3), .val (.int sp4), .val (.int (Int32.ofNat j1)), .val (.int (Int32.ofNat j2)), .val (.int (Int32.ofNat j3)), .val (.int (Int32.ofNat j4)), .val (.int (Int32.ofNat jq)), .val (.int on1), .val (.int zJ15_0), .val (.int zJ17_0), .unset, .unset, .unset, .unset] []))
                  refine Go.of (fun _ q => XS.iconst X18.here hx rfl (hb hby at_246) q) ?_
                  show Go _ _ _ _ _ _ _ (T18.setTop (mkF m 247 #[.val (.int x1), .val (.int x2), .val (.int x3), .val (.int x4), .val (.int x5), .val (.int (Int32.ofNat k1)), .val (.int (Int32.ofNat k2)), .val (.int (Int32.ofNat k3)), .val (.int (Int32.ofNat k4)), .val (.int sp1), .val (.int sp2), .val (.int sp3), .val (.int sp4), .val (.int (Int32.ofNat j1)), .val (.int (Int32.ofNat j2)), .val (.int (Int32.ofNat j3)), .val (.int (Int32.ofNat j4)), .val (.int (Int32.ofNat jq)), .val (.int on1), .val (.int zJ15_0), .val (.int zJ17_0), .unset, .unset, .unset, .unset] [(.int (1 : Int32))]))
                  refine Go.of (fun _ q => XS.goto X18.here hx rfl (pc0 := 247) (pc' := 251) rfl (hb hby at_247) (by decide) (by decide) q) ?_
                  show Go _ _ _ _ _ _ _ (T18.setTop (mkF m 251 #[.val (.int x1), .val (.int x2), .val (.int x3), .val (.int x4), .val (.int x5), .val (.int (Int32.ofNat k1)), .val (.int (Int32.ofNat k2)), .val (.int (Int32.ofNat k3)), .val (.int (Int32.ofNat k4)), .val (.int sp1), .val (.int sp2), .val (.int sp3), .val (.int sp4), .val (.int (Int32.ofNat j1)), .val (.int (Int32.ofNat j2)), .val (.int (Int32.ofNat j3)), .val (.int (Int32.ofNat j4)), .val (.int (Int32.ofNat jq)), .val (.int on1), .val (.int zJ15_0), .val (.int zJ17_0), .unset, .unset, .unset, .unset] [(.int (1 : Int32))]))
                  exact J19 _ (by rw [if_neg c186, if_pos c191, if_neg c210, if_pos c217, if_neg c224, if_pos c229])
                · refine Go.of (fun _ q => XS.ifNo X18.here hx rfl (hb hby at_229) rfl ((if0 _ _).trans (feq c229).1) q) ?_
                  show Go _ _ _ _ _ _ _ (T18.setTop (mkF m 232 #[.val (.int x1), .val (.int x2), .val (.int x3), .val (.int x4), .val (.int x5), .val (.int (Int32.ofNat k1)), .val (.int (Int32.ofNat k2)), .val (.int (Int32.ofNat k3)), .val (.int (Int32.ofNat k4)), .val (.int sp1), .val (.int sp2), .val (.int sp3), .val (.int sp4), .val (.int (Int32.ofNat j1)), .val (.int (Int32.ofNat j2)), .val (.int (Int32.ofNat j3)), .val (.int (Int32.ofNat j4)), .val (.int (Int32.ofNat jq)), .val (.int on1), .val (.int zJ15_0), .val (.int zJ17_0), .unset, .unset, .unset, .unset] []))
                  refine Go.of (fun _ q => XS.iload X18.here hx rfl (hb hby at_232) rfl q) ?_
                  show Go _ _ _ _ _ _ _ (T18.setTop (mkF m 234 #[.val (.int x1), .val (.int x2), .val (.int x3), .val (.int x4), .val (.int x5), .val (.int (Int32.ofNat k1)), .val (.int (Int32.ofNat k2)), .val (.int (Int32.ofNat k3)), .val (.int (Int32.ofNat k4)), .val (.int sp1), .val (.int sp2), .val (.int sp3), .val (.int sp4), .val (.int (Int32.ofNat j1)), .val (.int (Int32.ofNat j2)), .val (.int (Int32.ofNat j3)), .val (.int (Int32.ofNat j4)), .val (.int (Int32.ofNat jq)), .val (.int on1), .val (.int zJ15_0), .val (.int zJ17_0), .unset, .unset, .unset, .unset] [(.int (Int32.ofNat k3))]))
                  refine Go.of (fun _ q => XS.iload X18.here hx rfl (hb hby at_234) rfl q) ?_
                  show Go _ _ _ _ _ _ _ (T18.setTop (mkF m 236 #[.val (.int x1), .val (.int x2), .val (.int x3), .val (.int x4), .val (.int x5), .val (.int (Int32.ofNat k1)), .val (.int (Int32.ofNat k2)), .val (.int (Int32.ofNat k3)), .val (.int (Int32.ofNat k4)), .val (.int sp1), .val (.int sp2), .val (.int sp3), .val (.int sp4), .val (.int (Int32.ofNat j1)), .val (.int (Int32.ofNat j2)), .val (.int (Int32.ofNat j3)), .val (.int (Int32.ofNat j4)), .val (.int (Int32.ofNat jq)), .val (.int on1), .val (.int zJ15_0), .val (.int zJ17_0), .unset, .unset, .unset, .unset] [(.int (Int32.ofNat k4)), (.int (Int32.ofNat k3))]))
                  by_cases c236 : (Int32.ofNat k3) = (Int32.ofNat k4)
                  · refine Go.of (fun _ q => XS.icmpNo X18.here hx rfl (hb hby at_236) rfl (teq c236).2 q) ?_
                    show Go _ _ _ _ _ _ _ (T18.setTop (mkF m 239 #[.val (.int x1), .val (.int x2), .val (.int x3), .val (.int x4), .val (.int x5), .val (.int (Int32.ofNat k1)), .val (.int (Int32.ofNat k2)), .val (.int (Int32.ofNat k3)), .val (.int (Int32.ofNat k4)), .val (.int sp1), .val (.int sp2), .val (.int sp3), .val (.int sp4), .val (.int (Int32.ofNat j1)), .val (.int (Int32.ofNat j2)), .val (.int (Int32.ofNat j3)), .val (.int (Int32.ofNat j4)), .val (.int (Int32.ofNat jq)), .val (.int on1), .val (.int zJ15_0), .val (.int zJ17_0), .unset, .unset, .unset, .unset] []))
                    refine Go.of (fun _ q => XS.iload X18.here hx rfl (hb hby at_239) rfl q) ?_
                    show Go _ _ _ _ _ _ _ (T18.setTop (mkF m 241 #[.val (.int x1), .val (.int x2), .val (.int x3), .val (.int x4), .val (.int x5), .val (.int (Int32.ofNat k1)), .val (.int (Int32.ofNat k2)), .val (.int (Int32.ofNat k3)), .val (.int (Int32.ofNat k4)), .val (.int sp1), .val (.int sp2), .val (.int sp3), .val (.int sp4), .val (.int (Int32.ofNat j1)), .val (.int (Int32.ofNat j2)), .val (.int (Int32.ofNat j3)), .val (.int (Int32.ofNat j4)), .val (.int (Int32.ofNat jq)), .val (.int on1), .val (.int zJ15_0), .val (.int zJ17_0), .unset, .unset, .unset, .unset] [(.int sp3)]))
                    refine Go.of (fun _ q => XS.iload X18.here hx rfl (hb hby at_241) rfl q) ?_
                    show Go _ _ _ _ _ _ _ (T18.setTop (mkF m 243 #[.val (.int x1), .val (.int x2), .val (.int x3), .val (.int x4), .val (.int x5), .val (.int (Int32.ofNat k1)), .val (.int (Int32.ofNat k2)), .val (.int (Int32.ofNat k3)), .val (.int (Int32.ofNat k4)), .val (.int sp1), .val (.int sp2), .val (.int sp3), .val (.int sp4), .val (.int (Int32.ofNat j1)), .val (.int (Int32.ofNat j2)), .val (.int (Int32.ofNat j3)), .val (.int (Int32.ofNat j4)), .val (.int (Int32.ofNat jq)), .val (.int on1), .val (.int zJ15_0), .val (.int zJ17_0), .unset, .unset, .unset, .unset] [(.int sp4), (.int sp3)]))
                    by_cases c243 : sp3 = sp4
                    · refine Go.of (fun _ q => XS.icmpYes X18.here hx rfl (pc0 := 243) (pc' := 250) rfl (hb hby at_243) rfl (teq c243).1 (by decide) (by decide) q) ?_
                      show Go _ _ _ _ _ _ _ (T18.setTop (mkF m 250 #[.val (.int x1), .val (.int x2), .val (.int x3), .val (.int x4), .val (.int x5), .val (.int (Int32.ofNat k1)), .val (.int (Int32.ofNat k2)), .val (.int (Int32.ofNat k3)), .val (.int (Int32.ofNat k4)), .val (.int sp1), .val (.int sp2), .val (.int sp3), .val (.int sp4), .val (.int (Int32.ofNat j1)), .val (.int (Int32.ofNat j2)), .val (.int (Int32.ofNat j3)), .val (.int (Int32.ofNat j4)), .val (.int (Int32.ofNat jq)), .val (.int on1), .val (.int zJ15_0), .val (.int zJ17_0), .unset, .unset, .unset, .unset] []))
                      refine Go.of (fun _ q => XS.iconst X18.here hx rfl (hb hby at_250) q) ?_
                      show Go _ _ _ _ _ _ _ (T18.setTop (mkF m 251 #[.val (.int x1), .val (.int x2), .val (.int x3), .val (.int x4), .val (.int x5), .val (.int (Int32.ofNat k1)), .val (.int (Int32.ofNat k2)), .val (.int (Int32.ofNat k3)), .val (.int (Int32.ofNat k4)), .val (.int sp1), .val (.int sp2), .val (.int sp3), .val (.int sp4), .val (.int (Int32.ofNat j1)), .val (.int (Int32.ofNat j2)), .val (.int (Int32.ofNat j3)), .val (.int (Int32.ofNat j4)), .val (.int (Int32.ofNat jq)), .val (.int on1), .val (.int zJ15_0), .val (.int zJ17_0), .unset, .unset, .unset, .unset] [(.int (0 : Int32))]))
                      exact J19 _ (by rw [if_neg c186, if_pos c191, if_neg c210, if_pos c217, if_neg c224, if_neg c229, if_pos c236, if_pos c243])
                    · refine Go.of (fun _ q => XS.icmpNo X18.here hx rfl (hb hby at_243) rfl (feq c243).1 q) ?_
                      show Go _ _ _ _ _ _ _ (T18.setTop (mkF m 246 #[.val (.int x1), .val (.int x2), .val (.int x3), .val (.int x4), .val (.int x5), .val (.int (Int32.ofNat k1)), .val (.int (Int32.ofNat k2)), .val (.int (Int32.ofNat k3)), .val (.int (Int32.ofNat k4)), .val (.int sp1), .val (.int sp2), .val (.int sp3), .val (.int sp4), .val (.int (Int32.ofNat j1)), .val (.int (Int32.ofNat j2)), .val (.int (Int32.ofNat j3)), .val (.int (Int32.ofNat j4)), .val (.int (Int32.ofNat jq)), .val (.int on1), .val (.int zJ15_0), .val (.int zJ17_0), .unset, .unset, .unset, .unset] []))
                      refine Go.of (fun _ q => XS.iconst X18.here hx rfl (hb hby at_246) q) ?_
                      show Go _ _ _ _ _ _ _ (T18.setTop (mkF m 247 #[.val (.int x1), .val (.int x2), .val (.int x3), .val (.int x4), .val (.int x5), .val (.int (Int32.ofNat k1)), .val (.int (Int32.ofNat k2)), .val (.int (Int32.ofNat k3)), .val (.int (Int32.ofNat k4)), .val (.int sp1), .val (.int sp2), .val (.int sp3), .val (.int sp4), .val (.int (Int32.ofNat j1)), .val (.int (Int32.ofNat j2)), .val (.int (Int32.ofNat j3)), .val (.int (Int32.ofNat j4)), .val (.int (Int32.ofNat jq)), .val (.int on1), .val (.int zJ15_0), .val (.int zJ17_0), .unset, .unset, .unset, .unset] [(.int (1 : Int32))]))
                      refine Go.of (fun _ q => XS.goto X18.here hx rfl (pc0 := 247) (pc' := 251) rfl (hb hby at_247) (by decide) (by decide) q) ?_
                      show Go _ _ _ _ _ _ _ (T18.setTop (mkF m 251 #[.val (.int x1), .val (.int x2), .val (.int x3), .val (.int x4), .val (.int x5), .val (.int (Int32.ofNat k1)), .val (.int (Int32.ofNat k2)), .val (.int (Int32.ofNat k3)), .val (.int (Int32.ofNat k4)), .val (.int sp1), .val (.int sp2), .val (.int sp3), .val (.int sp4), .val (.int (Int32.ofNat j1)), .val (.int (Int32.ofNat j2)), .val (.int (Int32.ofNat j3)), .val (.int (Int32.ofNat j4)), .val (.int (Int32.ofNat jq)), .val (.int on1), .val (.int zJ15_0), .val (.int zJ17_0), .unset, .unset, .unset, .unset] [(.int (1 : Int32))]))
                      exact J19 _ (by rw [if_neg c186, if_pos c191, if_neg c210, if_pos c217, if_neg c224, if_neg c229, if_pos c236, if_neg c243])
                  · refine Go.of (fun _ q => XS.icmpYes X18.here hx rfl (pc0 := 236) (pc' := 246) rfl (hb hby at_236) rfl (feq c236).2 (by decide) (by decide) q) ?_
                    show Go _ _ _ _ _ _ _ (T18.setTop (mkF m 246 #[.val (.int x1), .val (.int x2), .val (.int x3), .val (.int x4), .val (.int x5), .val (.int (Int32.ofNat k1)), .val (.int (Int32.ofNat k2)), .val (.int (Int32.ofNat k3)), .val (.int (Int32.ofNat k4)), .val (.int sp1), .val (.int sp2), .val (.int sp3), .val (.int sp4), .val (.int (Int32.ofNat j1)), .val (.int (Int32.ofNat j2)), .val (.int (Int32.ofNat j3)), .val (.int (Int32.ofNat j4)), .val (.int (Int32.ofNat jq)), .val (.int on1), .val (.int zJ15_0), .val (.int zJ17_0), .unset, .unset, .unset, .unset] []))
                    refine Go.of (fun _ q => XS.iconst X18.here hx rfl (hb hby at_246) q) ?_
                    show Go _ _ _ _ _ _ _ (T18.setTop (mkF m 247 #[.val (.int x1), .val (.int x2), .val (.int x3), .val (.int x4), .val (.int x5), .val (.int (Int32.ofNat k1)), .val (.int (Int32.ofNat k2)), .val (.int (Int32.ofNat k3)), .val (.int (Int32.ofNat k4)), .val (.int sp1), .val (.int sp2), .val (.int sp3), .val (.int sp4), .val (.int (Int32.ofNat j1)), .val (.int (Int32.ofNat j2)), .val (.int (Int32.ofNat j3)), .val (.int (Int32.ofNat j4)), .val (.int (Int32.ofNat jq)), .val (.int on1), .val (.int zJ15_0), .val (.int zJ17_0), .unset, .unset, .unset, .unset] [(.int (1 : Int32))]))
                    refine Go.of (fun _ q => XS.goto X18.here hx rfl (pc0 := 247) (pc' := 251) rfl (hb hby at_247) (by decide) (by decide) q) ?_
                    show Go _ _ _ _ _ _ _ (T18.setTop (mkF m 251 #[.val (.int x1), .val (.int x2), .val (.int x3), .val (.int x4), .val (.int x5), .val (.int (Int32.ofNat k1)), .val (.int (Int32.ofNat k2)), .val (.int (Int32.ofNat k3)), .val (.int (Int32.ofNat k4)), .val (.int sp1), .val (.int sp2), .val (.int sp3), .val (.int sp4), .val (.int (Int32.ofNat j1)), .val (.int (Int32.ofNat j2)), .val (.int (Int32.ofNat j3)), .val (.int (Int32.ofNat j4)), .val (.int (Int32.ofNat jq)), .val (.int on1), .val (.int zJ15_0), .val (.int zJ17_0), .unset, .unset, .unset, .unset] [(.int (1 : Int32))]))
                    exact J19 _ (by rw [if_neg c186, if_pos c191, if_neg c210, if_pos c217, if_neg c224, if_neg c229, if_neg c236])
            · refine Go.of (fun _ q => XS.icmpYes X18.here hx rfl (pc0 := 217) (pc' := 227) rfl (hb hby at_217) rfl (feq c217).2 (by decide) (by decide) q) ?_
              show Go _ _ _ _ _ _ _ (T18.setTop (mkF m 227 #[.val (.int x1), .val (.int x2), .val (.int x3), .val (.int x4), .val (.int x5), .val (.int (Int32.ofNat k1)), .val (.int (Int32.ofNat k2)), .val (.int (Int32.ofNat k3)), .val (.int (Int32.ofNat k4)), .val (.int sp1), .val (.int sp2), .val (.int sp3), .val (.int sp4), .val (.int (Int32.ofNat j1)), .val (.int (Int32.ofNat j2)), .val (.int (Int32.ofNat j3)), .val (.int (Int32.ofNat j4)), .val (.int (Int32.ofNat jq)), .val (.int on1), .val (.int zJ15_0), .val (.int zJ17_0), .unset, .unset, .unset, .unset] []))
              refine Go.of (fun _ q => XS.iload X18.here hx rfl (hb hby at_227) rfl q) ?_
              show Go _ _ _ _ _ _ _ (T18.setTop (mkF m 229 #[.val (.int x1), .val (.int x2), .val (.int x3), .val (.int x4), .val (.int x5), .val (.int (Int32.ofNat k1)), .val (.int (Int32.ofNat k2)), .val (.int (Int32.ofNat k3)), .val (.int (Int32.ofNat k4)), .val (.int sp1), .val (.int sp2), .val (.int sp3), .val (.int sp4), .val (.int (Int32.ofNat j1)), .val (.int (Int32.ofNat j2)), .val (.int (Int32.ofNat j3)), .val (.int (Int32.ofNat j4)), .val (.int (Int32.ofNat jq)), .val (.int on1), .val (.int zJ15_0), .val (.int zJ17_0), .unset, .unset, .unset, .unset] [(.int zJ17_0)]))
              by_cases c229 : zJ17_0 = (0 : Int32)
              · refine Go.of (fun _ q => XS.ifYes X18.here hx rfl (pc0 := 229) (pc' := 246) rfl (hb hby at_229) rfl ((if0 _ _).trans (teq c229).1) (by decide) (by decide) q) ?_
                show Go _ _ _ _ _ _ _ (T18.setTop (mkF m 246 #[.val (.int x1), .val (.int x2), .val (.int x3), .val (.int x4), .val (.int x5), .val (.int (Int32.ofNat k1)), .val (.int (Int32.ofNat k2)), .val (.int (Int32.ofNat k3)), .val (.int (Int32.ofNat k4)), .val (.int sp1), .val (.int sp2), .val (.int sp3), .val (.int sp4), .val (.int (Int32.ofNat j1)), .val (.int (Int32.ofNat j2)), .val (.int (Int32.ofNat j3)), .val (.int (Int32.ofNat j4)), .val (.int (Int32.ofNat jq)), .val (.int on1), .val (.int zJ15_0), .val (.int zJ17_0), .unset, .unset, .unset, .unset] []))
                refine Go.of (fun _ q => XS.iconst X18.here hx rfl (hb hby at_246) q) ?_
                show Go _ _ _ _ _ _ _ (T18.setTop (mkF m 247 #[.val (.int x1), .val (.int x2), .val (.int x3), .val (.int x4), .val (.int x5), .val (.int (Int32.ofNat k1)), .val (.int (Int32.ofNat k2)), .val (.int (Int32.ofNat k3)), .val (.int (Int32.ofNat k4)), .val (.int sp1), .val (.int sp2), .val (.int sp3), .val (.int sp4), .val (.int (Int32.ofNat j1)), .val (.int (Int32.ofNat j2)), .val (.int (Int32.ofNat j3)), .val (.int (Int32.ofNat j4)), .val (.int (Int32.ofNat jq)), .val (.int on1), .val (.int zJ15_0), .val (.int zJ17_0), .unset, .unset, .unset, .unset] [(.int (1 : Int32))]))
                refine Go.of (fun _ q => XS.goto X18.here hx rfl (pc0 := 247) (pc' := 251) rfl (hb hby at_247) (by decide) (by decide) q) ?_
                show Go _ _ _ _ _ _ _ (T18.setTop (mkF m 251 #[.val (.int x1), .val (.int x2), .val (.int x3), .val (.int x4), .val (.int x5), .val (.int (Int32.ofNat k1)), .val (.int (Int32.ofNat k2)), .val (.int (Int32.ofNat k3)), .val (.int (Int32.ofNat k4)), .val (.int sp1), .val (.int sp2), .val (.int sp3), .val (.int sp4), .val (.int (Int32.ofNat j1)), .val (.int (Int32.ofNat j2)), .val (.int (Int32.ofNat j3)), .val (.int (Int32.ofNat j4)), .val (.int (Int32.ofNat jq)), .val (.int on1), .val (.int zJ15_0), .val (.int zJ17_0), .unset, .unset, .unset, .unset] [(.int (1 : Int32))]))
                exact J19 _ (by rw [if_neg c186, if_pos c191, if_neg c210, if_neg c217, if_pos c229])
              · refine Go.of (fun _ q => XS.ifNo X18.here hx rfl (hb hby at_229) rfl ((if0 _ _).trans (feq c229).1) q) ?_
                show Go _ _ _ _ _ _ _ (T18.setTop (mkF m 232 #[.val (.int x1), .val (.int x2), .val (.int x3), .val (.int x4), .val (.int x5), .val (.int (Int32.ofNat k1)), .val (.int (Int32.ofNat k2)), .val (.int (Int32.ofNat k3)), .val (.int (Int32.ofNat k4)), .val (.int sp1), .val (.int sp2), .val (.int sp3), .val (.int sp4), .val (.int (Int32.ofNat j1)), .val (.int (Int32.ofNat j2)), .val (.int (Int32.ofNat j3)), .val (.int (Int32.ofNat j4)), .val (.int (Int32.ofNat jq)), .val (.int on1), .val (.int zJ15_0), .val (.int zJ17_0), .unset, .unset, .unset, .unset] []))
                refine Go.of (fun _ q => XS.iload X18.here hx rfl (hb hby at_232) rfl q) ?_
                show Go _ _ _ _ _ _ _ (T18.setTop (mkF m 234 #[.val (.int x1), .val (.int x2), .val (.int x3), .val (.int x4), .val (.int x5), .val (.int (Int32.ofNat k1)), .val (.int (Int32.ofNat k2)), .val (.int (Int32.ofNat k3)), .val (.int (Int32.ofNat k4)), .val (.int sp1), .val (.int sp2), .val (.int sp3), .val (.int sp4), .val (.int (Int32.ofNat j1)), .val (.int (Int32.ofNat j2)), .val (.int (Int32.ofNat j3)), .val (.int (Int32.ofNat j4)), .val (.int (Int32.ofNat jq)), .val (.int on1), .val (.int zJ15_0), .val (.int zJ17_0), .unset, .unset, .unset, .unset] [(.int (Int32.ofNat k3))]))
                refine Go.of (fun _ q => XS.iload X18.here hx rfl (hb hby at_234) rfl q) ?_
                show Go _ _ _ _ _ _ _ (T18.setTop (mkF m 236 #[.val (.int x1), .val (.int x2), .val (.int x3), .val (.int x4), .val (.int x5), .val (.int (Int32.ofNat k1)), .val (.int (Int32.ofNat k2)), .val (.int (Int32.ofNat k3)), .val (.int (Int32.ofNat k4)), .val (.int sp1), .val (.int sp2), .val (.int sp3), .val (.int sp4), .val (.int (Int32.ofNat j1)), .val (.int (Int32.ofNat j2)), .val (.int (Int32.ofNat j3)), .val (.int (Int32.ofNat j4)), .val (.int (Int32.ofNat jq)), .val (.int on1), .val (.int zJ15_0), .val (.int zJ17_0), .unset, .unset, .unset, .unset] [(.int (Int32.ofNat k4)), (.int (Int32.ofNat k3))]))
                by_cases c236 : (Int32.ofNat k3) = (Int32.ofNat k4)
                · refine Go.of (fun _ q => XS.icmpNo X18.here hx rfl (hb hby at_236) rfl (teq c236).2 q) ?_
                  show Go _ _ _ _ _ _ _ (T18.setTop (mkF m 239 #[.val (.int x1), .val (.int x2), .val (.int x3), .val (.int x4), .val (.int x5), .val (.int (Int32.ofNat k1)), .val (.int (Int32.ofNat k2)), .val (.int (Int32.ofNat k3)), .val (.int (Int32.ofNat k4)), .val (.int sp1), .val (.int sp2), .val (.int sp3), .val (.int sp4), .val (.int (Int32.ofNat j1)), .val (.int (Int32.ofNat j2)), .val (.int (Int32.ofNat j3)), .val (.int (Int32.ofNat j4)), .val (.int (Int32.ofNat jq)), .val (.int on1), .val (.int zJ15_0), .val (.int zJ17_0), .unset, .unset, .unset, .unset] []))
                  refine Go.of (fun _ q => XS.iload X18.here hx rfl (hb hby at_239) rfl q) ?_
                  show Go _ _ _ _ _ _ _ (T18.setTop (mkF m 241 #[.val (.int x1), .val (.int x2), .val (.int x3), .val (.int x4), .val (.int x5), .val (.int (Int32.ofNat k1)), .val (.int (Int32.ofNat k2)), .val (.int (Int32.ofNat k3)), .val (.int (Int32.ofNat k4)), .val (.int sp1), .val (.int sp2), .val (.int sp3), .val (.int sp4), .val (.int (Int32.ofNat j1)), .val (.int (Int32.ofNat j2)), .val (.int (Int32.ofNat j3)), .val (.int (Int32.ofNat j4)), .val (.int (Int32.ofNat jq)), .val (.int on1), .val (.int zJ15_0), .val (.int zJ17_0), .unset, .unset, .unset, .unset] [(.int sp3)]))
                  refine Go.of (fun _ q => XS.iload X18.here hx rfl (hb hby at_241) rfl q) ?_
                  show Go _ _ _ _ _ _ _ (T18.setTop (mkF m 243 #[.val (.int x1), .val (.int x2), .val (.int x3), .val (.int x4), .val (.int x5), .val (.int (Int32.ofNat k1)), .val (.int (Int32.ofNat k2)), .val (.int (Int32.ofNat k3)), .val (.int (Int32.ofNat k4)), .val (.int sp1), .val (.int sp2), .val (.int sp3), .val (.int sp4), .val (.int (Int32.ofNat j1)), .val (.int (Int32.ofNat j2)), .val (.int (Int32.ofNat j3)), .val (.int (Int32.ofNat j4)), .val (.int (Int32.ofNat jq)), .val (.int on1), .val (.int zJ15_0), .val (.int zJ17_0), .unset, .unset, .unset, .unset] [(.int sp4), (.int sp3)]))
                  by_cases c243 : sp3 = sp4
                  · refine Go.of (fun _ q => XS.icmpYes X18.here hx rfl (pc0 := 243) (pc' := 250) rfl (hb hby at_243) rfl (teq c243).1 (by decide) (by decide) q) ?_
                    show Go _ _ _ _ _ _ _ (T18.setTop (mkF m 250 #[.val (.int x1), .val (.int x2), .val (.int x3), .val (.int x4), .val (.int x5), .val (.int (Int32.ofNat k1)), .val (.int (Int32.ofNat k2)), .val (.int (Int32.ofNat k3)), .val (.int (Int32.ofNat k4)), .val (.int sp1), .val (.int sp2), .val (.int sp3), .val (.int sp4), .val (.int (Int32.ofNat j1)), .val (.int (Int32.ofNat j2)), .val (.int (Int32.ofNat j3)), .val (.int (Int32.ofNat j4)), .val (.int (Int32.ofNat jq)), .val (.int on1), .val (.int zJ15_0), .val (.int zJ17_0), .unset, .unset, .unset, .unset] []))
                    refine Go.of (fun _ q => XS.iconst X18.here hx rfl (hb hby at_250) q) ?_
                    show Go _ _ _ _ _ _ _ (T18.setTop (mkF m 251 #[.val (.int x1), .val (.int x2), .val (.int x3), .val (.int x4), .val (.int x5), .val (.int (Int32.ofNat k1)), .val (.int (Int32.ofNat k2)), .val (.int (Int32.ofNat k3)), .val (.int (Int32.ofNat k4)), .val (.int sp1), .val (.int sp2), .val (.int sp3), .val (.int sp4), .val (.int (Int32.ofNat j1)), .val (.int (Int32.ofNat j2)), .val (.int (Int32.ofNat j3)), .val (.int (Int32.ofNat j4)), .val (.int (Int32.ofNat jq)), .val (.int on1), .val (.int zJ15_0), .val (.int zJ17_0), .unset, .unset, .unset, .unset] [(.int (0 : Int32))]))
                    exact J19 _ (by rw [if_neg c186, if_pos c191, if_neg c210, if_neg c217, if_neg c229, if_pos c236, if_pos c243])
                  · refine Go.of (fun _ q => XS.icmpNo X18.here hx rfl (hb hby at_243) rfl (feq c243).1 q) ?_
                    show Go _ _ _ _ _ _ _ (T18.setTop (mkF m 246 #[.val (.int x1), .val (.int x2), .val (.int x3), .val (.int x4), .val (.int x5), .val (.int (Int32.ofNat k1)), .val (.int (Int32.ofNat k2)), .val (.int (Int32.ofNat k3)), .val (.int (Int32.ofNat k4)), .val (.int sp1), .val (.int sp2), .val (.int sp3), .val (.int sp4), .val (.int (Int32.ofNat j1)), .val (.int (Int32.ofNat j2)), .val (.int (Int32.ofNat j3)), .val (.int (Int32.ofNat j4)), .val (.int (Int32.ofNat jq)), .val (.int on1), .val (.int zJ15_0), .val (.int zJ17_0), .unset, .unset, .unset, .unset] []))
                    refine Go.of (fun _ q => XS.iconst X18.here hx rfl (hb hby at_246) q) ?_
                    show Go _ _ _ _ _ _ _ (T18.setTop (mkF m 247 #[.val (.int x1), .val (.int x2), .val (.int x3), .val (.int x4), .val (.int x5), .val (.int (Int32.ofNat k1)), .val (.int (Int32.ofNat k2)), .val (.int (Int32.ofNat k3)), .val (.int (Int32.ofNat k4)), .val (.int sp1), .val (.int sp2), .val (.int sp3), .val (.int sp4), .val (.int (Int32.ofNat j1)), .val (.int (Int32.ofNat j2)), .val (.int (Int32.ofNat j3)), .val (.int (Int32.ofNat j4)), .val (.int (Int32.ofNat jq)), .val (.int on1), .val (.int zJ15_0), .val (.int zJ17_0), .unset, .unset, .unset, .unset] [(.int (1 : Int32))]))
                    refine Go.of (fun _ q => XS.goto X18.here hx rfl (pc0 := 247) (pc' := 251) rfl (hb hby at_247) (by decide) (by decide) q) ?_
                    show Go _ _ _ _ _ _ _ (T18.setTop (mkF m 251 #[.val (.int x1), .val (.int x2), .val (.int x3), .val (.int x4), .val (.int x5), .val (.int (Int32.ofNat k1)), .val (.int (Int32.ofNat k2)), .val (.int (Int32.ofNat k3)), .val (.int (Int32.ofNat k4)), .val (.int sp1), .val (.int sp2), .val (.int sp3), .val (.int sp4), .val (.int (Int32.ofNat j1)), .val (.int (Int32.ofNat j2)), .val (.int (Int32.ofNat j3)), .val (.int (Int32.ofNat j4)), .val (.int (Int32.ofNat jq)), .val (.int on1), .val (.int zJ15_0), .val (.int zJ17_0), .unset, .unset, .unset, .unset] [(.int (1 : Int32))]))
                    exact J19 _ (by rw [if_neg c186, if_pos c191, if_neg c210, if_neg c217, if_neg c229, if_pos c236, if_neg c243])
                · refine Go.of (fun _ q => XS.icmpYes X18.here hx rfl (pc0 := 236) (pc' := 246) rfl (hb hby at_236) rfl (feq c236).2 (by decide) (by decide) q) ?_
                  show Go _ _ _ _ _ _ _ (T18.setTop (mkF m 246 #[.val (.int x1), .val (.int x2), .val (.int x3), .val (.int x4), .val (.int x5), .val (.int (Int32.ofNat k1)), .val (.int (Int32.ofNat k2)), .val (.int (Int32.ofNat k3)), .val (.int (Int32.ofNat k4)), .val (.int sp1), .val (.int sp2), .val (.int sp3), .val (.int sp4), .val (.int (Int32.ofNat j1)), .val (.int (Int32.ofNat j2)), .val (.int (Int32.ofNat j3)), .val (.int (Int32.ofNat j4)), .val (.int (Int32.ofNat jq)), .val (.int on1), .val (.int zJ15_0), .val (.int zJ17_0), .unset, .unset, .unset, .unset] []))
                  refine Go.of (fun _ q => XS.iconst X18.here hx rfl (hb hby at_246) q) ?_
                  show Go _ _ _ _ _ _ _ (T18.setTop (mkF m 247 #[.val (.int x1), .val (.int x2), .val (.int x3), .val (.int x4), .val (.int x5), .val (.int (Int32.ofNat k1)), .val (.int (Int32.ofNat k2)), .val (.int (Int32.ofNat k3)), .val (.int (Int32.ofNat k4)), .val (.int sp1), .val (.int sp2), .val (.int sp3), .val (.int sp4), .val (.int (Int32.ofNat j1)), .val (.int (Int32.ofNat j2)), .val (.int (Int32.ofNat j3)), .val (.int (Int32.ofNat j4)), .val (.int (Int32.ofNat jq)), .val (.int on1), .val (.int zJ15_0), .val (.int zJ17_0), .unset, .unset, .unset, .unset] [(.int (1 : Int32))]))
                  refine Go.of (fun _ q => XS.goto X18.here hx rfl (pc0 := 247) (pc' := 251) rfl (hb hby at_247) (by decide) (by decide) q) ?_
                  show Go _ _ _ _ _ _ _ (T18.setTop (mkF m 251 #[.val (.int x1), .val (.int x2), .val (.int x3), .val (.int x4), .val (.int x5), .val (.int (Int32.ofNat k1)), .val (.int (Int32.ofNat k2)), .val (.int (Int32.ofNat k3)), .val (.int (Int32.ofNat k4)), .val (.int sp1), .val (.int sp2), .val (.int sp3), .val (.int sp4), .val (.int (Int32.ofNat j1)), .val (.int (Int32.ofNat j2)), .val (.int (Int32.ofNat j3)), .val (.int (Int32.ofNat j4)), .val (.int (Int32.ofNat jq)), .val (.int on1), .val (.int zJ15_0), .val (.int zJ17_0), .unset, .unset, .unset, .unset] [(.int (1 : Int32))]))
                  exact J19 _ (by rw [if_neg c186, if_pos c191, if_neg c210, if_neg c217, if_neg c229, if_neg c236])
        · refine Go.of (fun _ q => XS.ifNo X18.here hx rfl (hb hby at_191) rfl ((if0 _ _).trans (feq c191).1) q) ?_
          show Go _ _ _ _ _ _ _ (T18.setTop (mkF m 194 #[.val (.int x1), .val (.int x2), .val (.int x3), .val (.int x4), .val (.int x5), .val (.int (Int32.ofNat k1)), .val (.int (Int32.ofNat k2)), .val (.int (Int32.ofNat k3)), .val (.int (Int32.ofNat k4)), .val (.int sp1), .val (.int sp2), .val (.int sp3), .val (.int sp4), .val (.int (Int32.ofNat j1)), .val (.int (Int32.ofNat j2)), .val (.int (Int32.ofNat j3)), .val (.int (Int32.ofNat j4)), .val (.int (Int32.ofNat jq)), .val (.int on1), .val (.int zJ15_0), .val (.int zJ17_0), .unset, .unset, .unset, .unset] []))
          refine Go.of (fun _ q => XS.iload X18.here hx rfl (hb hby at_194) rfl q) ?_
          show Go _ _ _ _ _ _ _ (T18.setTop (mkF m 196 #[.val (.int x1), .val (.int x2), .val (.int x3), .val (.int x4), .val (.int x5), .val (.int (Int32.ofNat k1)), .val (.int (Int32.ofNat k2)), .val (.int (Int32.ofNat k3)), .val (.int (Int32.ofNat k4)), .val (.int sp1), .val (.int sp2), .val (.int sp3), .val (.int sp4), .val (.int (Int32.ofNat j1)), .val (.int (Int32.ofNat j2)), .val (.int (Int32.ofNat j3)), .val (.int (Int32.ofNat j4)), .val (.int (Int32.ofNat jq)), .val (.int on1), .val (.int zJ15_0), .val (.int zJ17_0), .unset, .unset, .unset, .unset] [(.int (Int32.ofNat k1))]))
          refine Go.of (fun _ q => XS.iload X18.here hx rfl (hb hby at_196) rfl q) ?_
          show Go _ _ _ _ _ _ _ (T18.setTop (mkF m 198 #[.val (.int x1), .val (.int x2), .val (.int x3), .val (.int x4), .val (.int x5), .val (.int (Int32.ofNat k1)), .val (.int (Int32.ofNat k2)), .val (.int (Int32.ofNat k3)), .val (.int (Int32.ofNat k4)), .val (.int sp1), .val (.int sp2), .val (.int sp3), .val (.int sp4), .val (.int (Int32.ofNat j1)), .val (.int (Int32.ofNat j2)), .val (.int (Int32.ofNat j3)), .val (.int (Int32.ofNat j4)), .val (.int (Int32.ofNat jq)), .val (.int on1), .val (.int zJ15_0), .val (.int zJ17_0), .unset, .unset, .unset, .unset] [(.int (Int32.ofNat k4)), (.int (Int32.ofNat k1))]))
          by_cases c198 : (Int32.ofNat k1) = (Int32.ofNat k4)
          · refine Go.of (fun _ q => XS.icmpNo X18.here hx rfl (hb hby at_198) rfl (teq c198).2 q) ?_
            show Go _ _ _ _ _ _ _ (T18.setTop (mkF m 201 #[.val (.int x1), .val (.int x2), .val (.int x3), .val (.int x4), .val (.int x5), .val (.int (Int32.ofNat k1)), .val (.int (Int32.ofNat k2)), .val (.int (Int32.ofNat k3)), .val (.int (Int32.ofNat k4)), .val (.int sp1), .val (.int sp2), .val (.int sp3), .val (.int sp4), .val (.int (Int32.ofNat j1)), .val (.int (Int32.ofNat j2)), .val (.int (Int32.ofNat j3)), .val (.int (Int32.ofNat j4)), .val (.int (Int32.ofNat jq)), .val (.int on1), .val (.int zJ15_0), .val (.int zJ17_0), .unset, .unset, .unset, .unset] []))
            refine Go.of (fun _ q => XS.iload X18.here hx rfl (hb hby at_201) rfl q) ?_
            show Go _ _ _ _ _ _ _ (T18.setTop (mkF m 203 #[.val (.int x1), .val (.int x2), .val (.int x3), .val (.int x4), .val (.int x5), .val (.int (Int32.ofNat k1)), .val (.int (Int32.ofNat k2)), .val (.int (Int32.ofNat k3)), .val (.int (Int32.ofNat k4)), .val (.int sp1), .val (.int sp2), .val (.int sp3), .val (.int sp4), .val (.int (Int32.ofNat j1)), .val (.int (Int32.ofNat j2)), .val (.int (Int32.ofNat j3)), .val (.int (Int32.ofNat j4)), .val (.int (Int32.ofNat jq)), .val (.int on1), .val (.int zJ15_0), .val (.int zJ17_0), .unset, .unset, .unset, .unset] [(.int sp1)]))
            refine Go.of (fun _ q => XS.iload X18.here hx rfl (hb hby at_203) rfl q) ?_
            show Go _ _ _ _ _ _ _ (T18.setTop (mkF m 205 #[.val (.int x1), .val (.int x2), .val (.int x3), .val (.int x4), .val (.int x5), .val (.int (Int32.ofNat k1)), .val (.int (Int32.ofNat k2)), .val (.int (Int32.ofNat k3)), .val (.int (Int32.ofNat k4)), .val (.int sp1), .val (.int sp2), .val (.int sp3), .val (.int sp4), .val (.int (Int32.ofNat j1)), .val (.int (Int32.ofNat j2)), .val (.int (Int32.ofNat j3)), .val (.int (Int32.ofNat j4)), .val (.int (Int32.ofNat jq)), .val (.int on1), .val (.int zJ15_0), .val (.int zJ17_0), .unset, .unset, .unset, .unset] [(.int sp4), (.int sp1)]))
            by_cases c205 : sp1 = sp4
            · refine Go.of (fun _ q => XS.icmpYes X18.here hx rfl (pc0 := 205) (pc' := 250) rfl (hb hby at_205) rfl (teq c205).1 (by decide) (by decide) q) ?_
              show Go _ _ _ _ _ _ _ (T18.setTop (mkF m 250 #[.val (.int x1), .val (.int x2), .val (.int x3), .val (.int x4), .val (.int x5), .val (.int (Int32.ofNat k1)), .val (.int (Int32.ofNat k2)), .val (.int (Int32.ofNat k3)), .val (.int (Int32.ofNat k4)), .val (.int sp1), .val (.int sp2), .val (.int sp3), .val (.int sp4), .val (.int (Int32.ofNat j1)), .val (.int (Int32.ofNat j2)), .val (.int (Int32.ofNat j3)), .val (.int (Int32.ofNat j4)), .val (.int (Int32.ofNat jq)), .val (.int on1), .val (.int zJ15_0), .val (.int zJ17_0), .unset, .unset, .unset, .unset] []))
              refine Go.of (fun _ q => XS.iconst X18.here hx rfl (hb hby at_250) q) ?_
              show Go _ _ _ _ _ _ _ (T18.setTop (mkF m 251 #[.val (.int x1), .val (.int x2), .val (.int x3), .val (.int x4), .val (.int x5), .val (.int (Int32.ofNat k1)), .val (.int (Int32.ofNat k2)), .val (.int (Int32.ofNat k3)), .val (.int (Int32.ofNat k4)), .val (.int sp1), .val (.int sp2), .val (.int sp3), .val (.int sp4), .val (.int (Int32.ofNat j1)), .val (.int (Int32.ofNat j2)), .val (.int (Int32.ofNat j3)), .val (.int (Int32.ofNat j4)), .val (.int (Int32.ofNat jq)), .val (.int on1), .val (.int zJ15_0), .val (.int zJ17_0), .unset, .unset, .unset, .unset] [(.int (0 : Int32))]))
              exact J19 _ (by rw [if_neg c186, if_neg c191, if_pos c198, if_pos c205])
            · refine Go.of (fun _ q => XS.icmpNo X18.here hx rfl (hb hby at_205) rfl (feq c205).1 q) ?_
              show Go _ _ _ _ _ _ _ (T18.setTop (mkF m 208 #[.val (.int x1), .val (.int x2), .val (.int x3), .val (.int x4), .val (.int x5), .val (.int (Int32.ofNat k1)), .val (.int (Int32.ofNat k2)), .val (.int (Int32.ofNat k3)), .val (.int (Int32.ofNat k4)), .val (.int sp1), .val (.int sp2), .val (.int sp3), .val (.int sp4), .val (.int (Int32.ofNat j1)), .val (.int (Int32.ofNat j2)), .val (.int (Int32.ofNat j3)), .val (.int (Int32.ofNat j4)), .val (.int (Int32.ofNat jq)), .val (.int on1), .val (.int zJ15_0), .val (.int zJ17_0), .unset, .unset, .unset, .unset] []))
              refine Go.of (fun _ q => XS.iload X18.here hx rfl (hb hby at_208) rfl q) ?_
              show Go _ _ _ _ _ _ _ (T18.setTop (mkF m 210 #[.val (.int x1), .val (.int x2), .val (.int x3), .val (.int x4), .val (.int x5), .val (.int (Int32.ofNat k1)), .val (.int (Int32.ofNat k2)), .val (.int (Int32.ofNat k3)), .val (.int (Int32.ofNat k4)), .val (.int sp1), .val (.int sp2), .val (.int sp3), .val (.int sp4), .val (.int (Int32.ofNat j1)), .val (.int (Int32.ofNat j2)), .val (.int (Int32.ofNat j3)), .val (.int (Int32.ofNat j4)), .val (.int (Int32.ofNat jq)), .val (.int on1), .val (.int zJ15_0), .val (.int zJ17_0), .unset, .unset, .unset, .unset] [(.int zJ15_0)]))
              by_cases c210 : zJ15_0 = (0 : Int32)
              · refine Go.of (fun _ q => XS.ifYes X18.here hx rfl (pc0 := 210) (pc' := 227) rfl (hb hby at_210) rfl ((if0 _ _).trans (teq c210).1) (by decide) (by decide) q) ?_
                show Go _ _ _ _ _ _ _ (T18.setTop (mkF m 227 #[.val (.int x1), .val (.int x2), .val (.int x3), .val (.int x4), .val (.int x5), .val (.int (Int32.ofNat k1)), .val (.int (Int32.ofNat k2)), .val (.int (Int32.ofNat k3)), .val (.int (Int32.ofNat k4)), .val (.int sp1), .val (.int sp2), .val (.int sp3), .val (.int sp4), .val (.int (Int32.ofNat j1)), .val (.int (Int32.ofNat j2)), .val (.int (Int32.ofNat j3)), .val (.int (Int32.ofNat j4)), .val (.int (Int32.ofNat jq)), .val (.int on1), .val (.int zJ15_0), .val (.int zJ17_0), .unset, .unset, .unset, .unset] []))
                refine Go.of (fun _ q => XS.iload X18.here hx rfl (hb hby at_227) rfl q) ?_
                show Go _ _ _ _ _ _ _ (T18.setTop (mkF m 229 #[.val (.int x1), .val (.int x2), .val (.int x3), .val (.int x4), .val (.int x5), .val (.int (Int32.ofNat k1)), .val (.int (Int32.ofNat k2)), .val (.int (Int32.ofNat k3)), .val (.int (Int32.ofNat k4)), .val (.int sp1), .val (.int sp2), .val (.int sp3), .val (.int sp4), .val (.int (Int32.ofNat j1)), .val (.int (Int32.ofNat j2)), .val (.int (Int32.ofNat j3)), .val (.int (Int32.ofNat j4)), .val (.int (Int32.ofNat jq)), .val (.int on1), .val (.int zJ15_0), .val (.int zJ17_0), .unset, .unset, .unset, .unset] [(.int zJ17_0)]))
                by_cases c229 : zJ17_0 = (0 : Int32)
                · refine Go.of (fun _ q => XS.ifYes X18.here hx rfl (pc0 := 229) (pc' := 246) rfl (hb hby at_229) rfl ((if0 _ _).trans (teq c229).1) (by decide) (by decide) q) ?_
                  show Go _ _ _ _ _ _ _ (T18.setTop (mkF m 246 #[.val (.int x1), .val (.int x2), .val (.int x3), .val (.int x4), .val (.int x5), .val (.int (Int32.ofNat k1)), .val (.int (Int32.ofNat k2)), .val (.int (Int32.ofNat k3)), .val (.int (Int32.ofNat k4)), .val (.int sp1), .val (.int sp2), .val (.int sp3), .val (.int sp4), .val (.int (Int32.ofNat j1)), .val (.int (Int32.ofNat j2)), .val (.int (Int32.ofNat j3)), .val (.int (Int32.ofNat j4)), .val (.int (Int32.ofNat jq)), .val (.int on1), .val (.int zJ15_0), .val (.int zJ17_0), .unset, .unset, .unset, .unset] []))
                  refine Go.of (fun _ q => XS.iconst X18.here hx rfl (hb hby at_246) q) ?_
                  show Go _ _ _ _ _ _ _ (T18.setTop (mkF m 247 #[.val (.int x1), .val (.int x2), .val (.int x3), .val (.int x4), .val (.int x5), .val (.int (Int32.ofNat k1)), .val (.int (Int32.ofNat k2)), .val (.int (Int32.ofNat k3)), .val (.int (Int32.ofNat k4)), .val (.int sp1), .val (.int sp2), .val (.int sp3), .val (.int sp4), .val (.int (Int32.ofNat j1)), .val (.int (Int32.ofNat j2)), .val (.int (Int32.ofNat j3)), .val (.int (Int32.ofNat j4)), .val (.int (Int32.ofNat jq)), .val (.int on1), .val (.int zJ15_0), .val (.int zJ17_0), .unset, .unset, .unset, .unset] [(.int (1 : Int32))]))
                  refine Go.of (fun _ q => XS.goto X18.here hx rfl (pc0 := 247) (pc' := 251) rfl (hb hby at_247) (by decide) (by decide) q) ?_
                  show Go _ _ _ _ _ _ _ (T18.setTop (mkF m 251 #[.val (.int x1), .val (.int x2), .val (.int x3), .val (.int x4), .val (.int x5), .val (.int (Int32.ofNat k1)), .val (.int (Int32.ofNat k2)), .val (.int (Int32.ofNat k3)), .val (.int (Int32.ofNat k4)), .val (.int sp1), .val (.int sp2), .val (.int sp3), .val (.int sp4), .val (.int (Int32.ofNat j1)), .val (.int (Int32.ofNat j2)), .val (.int (Int32.ofNat j3)), .val (.int (Int32.ofNat j4)), .val (.int (Int32.ofNat jq)), .val (.int on1), .val (.int zJ15_0), .val (.int zJ17_0), .unset, .unset, .unset, .unset] [(.int (1 : Int32))]))
                  exact J19 _ (by rw [if_neg c186, if_neg c191, if_pos c198, if_neg c205, if_pos c210, if_pos c229])
                · refine Go.of (fun _ q => XS.ifNo X18.here hx rfl (hb hby at_229) rfl ((if0 _ _).trans (feq c229).1) q) ?_
                  show Go _ _ _ _ _ _ _ (T18.setTop (mkF m 232 #[.val (.int x1), .val (.int x2), .val (.int x3), .val (.int x4), .val (.int x5), .val (.int (Int32.ofNat k1)), .val (.int (Int32.ofNat k2)), .val (.int (Int32.ofNat k3)), .val (.int (Int32.ofNat k4)), .val (.int sp1), .val (.int sp2), .val (.int sp3), .val (.int sp4), .val (.int (Int32.ofNat j1)), .val (.int (Int32.ofNat j2)), .val (.int (Int32.ofNat j3)), .val (.int (Int32.ofNat j4)), .val (.int (Int32.ofNat jq)), .val (.int on1), .val (.int zJ15_0), .val (.int zJ17_0), .unset, .unset, .unset, .unset] []))
                  refine Go.of (fun _ q => XS.iload X18.here hx rfl (hb hby at_232) rfl q) ?_
                  show Go _ _ _ _ _ _ _ (T18.setTop (mkF m 234 #[.val (.int x1), .val (.int x2), .val (.int x3), .val (.int x4), .val (.int x5), .val (.int (Int32.ofNat k1)), .val (.int (Int32.ofNat k2)), .val (.int (Int32.ofNat k3)), .val (.int (Int32.ofNat k4)), .val (.int sp1), .val (.int sp2), .val (.int sp3), .val (.int sp4), .val (.int (Int32.ofNat j1)), .val (.int (Int32.ofNat j2)), .val (.int (Int32.ofNat j3)), .val (.int (Int32.ofNat j4)), .val (.int (Int32.ofNat jq)), .val (.int on1), .val (.int zJ15_0), .val (.int zJ17_0), .unset, .unset, .unset, .unset] [(.int (Int32.ofNat k3))]))
                  refine Go.of (fun _ q => XS.iload X18.here hx rfl (hb hby at_234) rfl q) ?_
                  show Go _ _ _ _ _ _ _ (T18.setTop (mkF m 236 #[.val (.int x1), .val (.int x2), .val (.int x3), .val (.int x4), .val (.int x5), .val (.int (Int32.ofNat k1)), .val (.int (Int32.ofNat k2)), .val (.int (Int32.ofNat k3)), .val (.int (Int32.ofNat k4)), .val (.int sp1), .val (.int sp2), .val (.int sp3), .val (.int sp4), .val (.int (Int32.ofNat j1)), .val (.int (Int32.ofNat j2)), .val (.int (Int32.ofNat j3)), .val (.int (Int32.ofNat j4)), .val (.int (Int32.ofNat jq)), .val (.int on1), .val (.int zJ15_0), .val (.int zJ17_0), .unset, .unset, .unset, .unset] [(.int (Int32.ofNat k4)), (.int (Int32.ofNat k3))]))
                  by_cases c236 : (Int32.ofNat k3) = (Int32.ofNat k4)
                  · refine Go.of (fun _ q => XS.icmpNo X18.here hx rfl (hb hby at_236) rfl (teq c236).2 q) ?_
                    show Go _ _ _ _ _ _ _ (T18.setTop (mkF m 239 #[.val (.int x1), .val (.int x2), .val (.int x3), .val (.int x4), .val (.int x5), .val (.int (Int32.ofNat k1)), .val (.int (Int32.ofNat k2)), .val (.int (Int32.ofNat k3)), .val (.int (Int32.ofNat k4)), .val (.int sp1), .val (.int sp2), .val (.int sp3), .val (.int sp4), .val (.int (Int32.ofNat j1)), .val (.int (Int32.ofNat j2)), .val (.int (Int32.ofNat j3)), .val (.int (Int32.ofNat j4)), .val (.int (Int32.ofNat jq)), .val (.int on1), .val (.int zJ15_0), .val (.int zJ17_0), .unset, .unset, .unset, .unset] []))
                    refine Go.of (fun _ q => XS.iload X18.here hx rfl (hb hby at_239) rfl q) ?_
                    show Go _ _ _ _ _ _ _ (T18.setTop (mkF m 241 #[.val (.int x1), .val (.int x2), .val (.int x3), .val (.int x4), .val (.int x5), .val (.int (Int32.ofNat k1)), .val (.int (Int32.ofNat k2)), .val (.int (Int32.ofNat k3)), .val (.int (Int32.ofNat k4)), .val (.int sp1), .val (.int sp2), .val (.int sp3), .val (.int sp4), .val (.int (Int32.ofNat j1)), .val (.int (Int32.ofNat j2)), .val (.int (Int32.ofNat j3)), .val (.int (Int32.ofNat j4)), .val (.int (Int32.ofNat jq)), .val (.int on1), .val (.int zJ15_0), .val (.int zJ17_0), .unset, .unset, .unset, .unset] [(.int sp3)]))
                    refine Go.of (fun _ q => XS.iload X18.here hx rfl (hb hby at_241) rfl q) ?_
                    show Go _ _ _ _ _ _ _ (T18.setTop (mkF m 243 #[.val (.int x1), .val (.int x2), .val (.int x3), .val (.int x4), .val (.int x5), .val (.int (Int32.ofNat k1)), .val (.int (Int32.ofNat k2)), .val (.int (Int32.ofNat k3)), .val (.int (Int32.ofNat k4)), .val (.int sp1), .val (.int sp2), .val (.int sp3), .val (.int sp4), .val (.int (Int32.ofNat j1)), .val (.int (Int32.ofNat j2)), .val (.int (Int32.ofNat j3)), .val (.int (Int32.ofNat j4)), .val (.int (Int32.ofNat jq)), .val (.int on1), .val (.int zJ15_0), .val (.int zJ17_0), .unset, .unset, .unset, .unset] [(.int sp4), (.int sp3)]))
                    by_cases c243 : sp3 = sp4
                    · refine Go.of (fun _ q => XS.icmpYes X18.here hx rfl (pc0 := 243) (pc' := 250) rfl (hb hby at_243) rfl (teq c243).1 (by decide) (by decide) q) ?_
                      show Go _ _ _ _ _ _ _ (T18.setTop (mkF m 250 #[.val (.int x1), .val (.int x2), .val (.int x3), .val (.int x4), .val (.int x5), .val (.int (Int32.ofNat k1)), .val (.int (Int32.ofNat k2)), .val (.int (Int32.ofNat k3)), .val (.int (Int32.ofNat k4)), .val (.int sp1), .val (.int sp2), .val (.int sp3), .val (.int sp4), .val (.int (Int32.ofNat j1)), .val (.int (Int32.ofNat j2)), .val (.int (Int32.ofNat j3)), .val (.int (Int32.ofNat j4)), .val (.int (Int32.ofNat jq)), .val (.int on1), .val (.int zJ15_0), .val (.int zJ17_0), .unset, .unset, .unset, .unset] []))
                      refine Go.of (fun _ q => XS.iconst X18.here hx rfl (hb hby at_250) q) ?_
                      show Go _ _ _ _ _ _ _ (T18.setTop (mkF m 251 #[.val (.int x1), .val (.int x2), .val (.int x3), .val (.int x4), .val (.int x5), .val (.int (Int32.ofNat k1)), .val (.int (Int32.ofNat k2)), .val (.int (Int32.ofNat k3)), .val (.int (Int32.ofNat k4)), .val (.int sp1), .val (.int sp2), .val (.int sp3), .val (.int sp4), .val (.int (Int32.ofNat j1)), .val (.int (Int32.ofNat j2)), .val (.int (Int32.ofNat j3)), .val (.int (Int32.ofNat j4)), .val (.int (Int32.ofNat jq)), .val (.int on1), .val (.int zJ15_0), .val (.int zJ17_0), .unset, .unset, .unset, .unset] [(.int (0 : Int32))]))
                      exact J19 _ (by rw [if_neg c186, if_neg c191, if_pos c198, if_neg c205, if_pos c210, if_neg c229, if_pos c236, if_pos c243])
                    · refine Go.of (fun _ q => XS.icmpNo X18.here hx rfl (hb hby at_243) rfl (feq c243).1 q) ?_
                      show Go _ _ _ _ _ _ _ (T18.setTop (mkF m 246 #[.val (.int x1), .val (.int x2), .val (.int x3), .val (.int x4), .val (.int x5), .val (.int (Int32.ofNat k1)), .val (.int (Int32.ofNat k2)), .val (.int (Int32.ofNat k3)), .val (.int (Int32.ofNat k4)), .val (.int sp1), .val (.int sp2), .val (.int sp3), .val (.int sp4), .val (.int (Int32.ofNat j1)), .val (.int (Int32.ofNat j2)), .val (.int (Int32.ofNat j3)), .val (.int (Int32.ofNat j4)), .val (.int (Int32.ofNat jq)), .val (.int on1), .val (.int zJ15_0), .val (.int zJ17_0), .unset, .unset, .unset, .unset] []))
                      refine Go.of (fun _ q => XS.iconst X18.here hx rfl (hb hby at_246) q) ?_
                      show Go _ _ _ _ _ _ _ (T18.setTop (mkF m 247 #[.val (.int x1), .val (.int x2), .val (.int x3), .val (.int x4), .val (.int x5), .val (.int (Int32.ofNat k1)), .val (.int (Int32.ofNat k2)), .val (.int (Int32.ofNat k3)), .val (.int (Int32.ofNat k4)), .val (.int sp1), .val (.int sp2), .val (.int sp3), .val (.int sp4), .val (.int (Int32.ofNat j1)), .val (.int (Int32.ofNat j2)), .val (.int (Int32.ofNat j3)), .val (.int (Int32.ofNat j4)), .val (.int (Int32.ofNat jq)), .val (.int on1), .val (.int zJ15_0), .val (.int zJ17_0), .unset, .unset, .unset, .unset] [(.int (1 : Int32))]))
                      refine Go.of (fun _ q => XS.goto X18.here hx rfl (pc0 := 247) (pc' := 251) rfl (hb hby at_247) (by decide) (by decide) q) ?_
                      show Go _ _ _ _ _ _ _ (T18.setTop (mkF m 251 #[.val (.int x1), .val (.int x2), .val (.int x3), .val (.int x4), .val (.int x5), .val (.int (Int32.ofNat k1)), .val (.int (Int32.ofNat k2)), .val (.int (Int32.ofNat k3)), .val (.int (Int32.ofNat k4)), .val (.int sp1), .val (.int sp2), .val (.int sp3), .val (.int sp4), .val (.int (Int32.ofNat j1)), .val (.int (Int32.ofNat j2)), .val (.int (Int32.ofNat j3)), .val (.int (Int32.ofNat j4)), .val (.int (Int32.ofNat jq)), .val (.int on1), .val (.int zJ15_0), .val (.int zJ17_0), .unset, .unset, .unset, .unset] [(.int (1 : Int32))]))
                      exact J19 _ (by rw [if_neg c186, if_neg c191, if_pos c198, if_neg c205, if_pos c210, if_neg c229, if_pos c236, if_neg c243])
                  · refine Go.of (fun _ q => XS.icmpYes X18.here hx rfl (pc0 := 236) (pc' := 246) rfl (hb hby at_236) rfl (feq c236).2 (by decide) (by decide) q) ?_
                    show Go _ _ _ _ _ _ _ (T18.setTop (mkF m 246 #[.val (.int x1), .val (.int x2), .val (.int x3), .val (.int x4), .val (.int x5), .val (.int (Int32.ofNat k1)), .val (.int (Int32.ofNat k2)), .val (.int (Int32.ofNat k3)), .val (.int (Int32.ofNat k4)), .val (.int sp1), .val (.int sp2), .val (.int sp3), .val (.int sp4), .val (.int (Int32.ofNat j1)), .val (.int (Int32.ofNat j2)), .val (.int (Int32.ofNat j3)), .val (.int (Int32.ofNat j4)), .val (.int (Int32.ofNat jq)), .val (.int on1), .val (.int zJ15_0), .val (.int zJ17_0), .unset, .unset, .unset, .unset] []))
                    refine Go.of (fun _ q => XS.iconst X18.here hx rfl (hb hby at_246) q) ?_
                    show Go _ _ _ _ _ _ _ (T18.setTop (mkF m 247 #[.val (.int x1), .val (.int x2), .val (.int x3), .val (.int x4), .val (.int x5), .val (.int (Int32.ofNat k1)), .val (.int (Int32.ofNat k2)), .val (.int (Int32.ofNat k3)), .val (.int (Int32.ofNat k4)), .val (.int sp1), .val (.int sp2), .val (.int sp3), .val (.int sp4), .val (.int (Int32.ofNat j1)), .val (.int (Int32.ofNat j2)), .val (.int (Int32.ofNat j3)), .val (.int (Int32.ofNat j4)), .val (.int (Int32.ofNat jq)), .val (.int on1), .val (.int zJ15_0), .val (.int zJ17_0), .unset, .unset, .unset, .unset] [(.int (1 : Int32))]))
                    refine Go.of (fun _ q => XS.goto X18.here hx rfl (pc0 := 247) (pc' := 251) rfl (hb hby at_247) (by decide) (by decide) q) ?_
                    show Go _ _ _ _ _ _ _ (T18.setTop (mkF m 251 #[.val (.int x1), .val (.int x2), .val (.int x3), .val (.int x4), .val (.int x5), .val (.int (Int32.ofNat k1)), .val (.int (Int32.ofNat k2)), .val (.int (Int32.ofNat k3)), .val (.int (Int32.ofNat k4)), .val (.int sp1), .val (.int sp2), .val (.int sp3), .val (.int sp4), .val (.int (Int32.ofNat j1)), .val (.int (Int32.ofNat j2)), .val (.int (Int32.ofNat j3)), .val (.int (Int32.ofNat j4)), .val (.int (Int32.ofNat jq)), .val (.int on1), .val (.int zJ15_0), .val (.int zJ17_0), .unset, .unset, .unset, .unset] [(.int (1 : Int32))]))
                    exact J19 _ (by rw [if_neg c186, if_neg c191, if_pos c198, if_neg c205, if_pos c210, if_neg c229, if_neg c236])
              · refine Go.of (fun _ q => XS.ifNo X18.here hx rfl (hb hby at_210) rfl ((if0 _ _).trans (feq c210).1) q) ?_
                show Go _ _ _ _ _ _ _ (T18.setTop (mkF m 213 #[.val (.int x1), .val (.int x2), .val (.int x3), .val (.int x4), .val (.int x5), .val (.int (Int32.ofNat k1)), .val (.int (Int32.ofNat k2)), .val (.int (Int32.ofNat k3)), .val (.int (Int32.ofNat k4)), .val (.int sp1), .val (.int sp2), .val (.int sp3), .val (.int sp4), .val (.int (Int32.ofNat j1)), .val (.int (Int32.ofNat j2)), .val (.int (Int32.ofNat j3)), .val (.int (Int32.ofNat j4)), .val (.int (Int32.ofNat jq)), .val (.int on1), .val (.int zJ15_0), .val (.int zJ17_0), .unset, .unset, .unset, .unset] []))
                refine Go.of (fun _ q => XS.iload X18.here hx rfl (hb hby at_213) rfl q) ?_
                show Go _ _ _ _ _ _ _ (T18.setTop (mkF m 215 #[.val (.int x1), .val (.int x2), .val (.int x3), .val (.int x4), .val (.int x5), .val (.int (Int32.ofNat k1)), .val (.int (Int32.ofNat k2)), .val (.int (Int32.ofNat k3)), .val (.int (Int32.ofNat k4)), .val (.int sp1), .val (.int sp2), .val (.int sp3), .val (.int sp4), .val (.int (Int32.ofNat j1)), .val (.int (Int32.ofNat j2)), .val (.int (Int32.ofNat j3)), .val (.int (Int32.ofNat j4)), .val (.int (Int32.ofNat jq)), .val (.int on1), .val (.int zJ15_0), .val (.int zJ17_0), .unset, .unset, .unset, .unset] [(.int (Int32.ofNat k2))]))
                refine Go.of (fun _ q => XS.iload X18.here hx rfl (hb hby at_215) rfl q) ?_
                show Go _ _ _ _ _ _ _ (T18.setTop (mkF m 217 #[.val (.int x1), .val (.int x2), .val (.int x3), .val (.int x4), .val (.int x5), .val (.int (Int32.ofNat k1)), .val (.int (Int32.ofNat k2)), .val (.int (Int32.ofNat k3)), .val (.int (Int32.ofNat k4)), .val (.int sp1), .val (.int sp2), .val (.int sp3), .val (.int sp4), .val (.int (Int32.ofNat j1)), .val (.int (Int32.ofNat j2)), .val (.int (Int32.ofNat j3)), .val (.int (Int32.ofNat j4)), .val (.int (Int32.ofNat jq)), .val (.int on1), .val (.int zJ15_0), .val (.int zJ17_0), .unset, .unset, .unset, .unset] [(.int (Int32.ofNat k4)), (.int (Int32.ofNat k2))]))
                by_cases c217 : (Int32.ofNat k2) = (Int32.ofNat k4)
                · refine Go.of (fun _ q => XS.icmpNo X18.here hx rfl (hb hby at_217) rfl (teq c217).2 q) ?_
                  show Go _ _ _ _ _ _ _ (T18.setTop (mkF m 220 #[.val (.int x1), .val (.int x2), .val (.int x3), .val (.int x4), .val (.int x5), .val (.int (Int32.ofNat k1)), .val (.int (Int32.ofNat k2)), .val (.int (Int32.ofNat k3)), .val (.int (Int32.ofNat k4)), .val (.int sp1), .val (.int sp2), .val (.int sp3), .val (.int sp4), .val (.int (Int32.ofNat j1)), .val (.int (Int32.ofNat j2)), .val (.int (Int32.ofNat j3)), .val (.int (Int32.ofNat j4)), .val (.int (Int32.ofNat jq)), .val (.int on1), .val (.int zJ15_0), .val (.int zJ17_0), .unset, .unset, .unset, .unset] []))
                  refine Go.of (fun _ q => XS.iload X18.here hx rfl (hb hby at_220) rfl q) ?_
                  show Go _ _ _ _ _ _ _ (T18.setTop (mkF m 222 #[.val (.int x1), .val (.int x2), .val (.int x3), .val (.int x4), .val (.int x5), .val (.int (Int32.ofNat k1)), .val (.int (Int32.ofNat k2)), .val (.int (Int32.ofNat k3)), .val (.int (Int32.ofNat k4)), .val (.int sp1), .val (.int sp2), .val (.int sp3), .val (.int sp4), .val (.int (Int32.ofNat j1)), .val (.int (Int32.ofNat j2)), .val (.int (Int32.ofNat j3)), .val (.int (Int32.ofNat j4)), .val (.int (Int32.ofNat jq)), .val (.int on1), .val (.int zJ15_0), .val (.int zJ17_0), .unset, .unset, .unset, .unset] [(.int sp2)]))
                  refine Go.of (fun _ q => XS.iload X18.here hx rfl (hb hby at_222) rfl q) ?_
                  show Go _ _ _ _ _ _ _ (T18.setTop (mkF m 224 #[.val (.int x1), .val (.int x2), .val (.int x3), .val (.int x4), .val (.int x5), .val (.int (Int32.ofNat k1)), .val (.int (Int32.ofNat k2)), .val (.int (Int32.ofNat k3)), .val (.int (Int32.ofNat k4)), .val (.int sp1), .val (.int sp2), .val (.int sp3), .val (.int sp4), .val (.int (Int32.ofNat j1)), .val (.int (Int32.ofNat j2)), .val (.int (Int32.ofNat j3)), .val (.int (Int32.ofNat j4)), .val (.int (Int32.ofNat jq)), .val (.int on1), .val (.int zJ15_0), .val (.int zJ17_0), .unset, .unset, .unset, .unset] [(.int sp4), (.int sp2)]))
                  by_cases c224 : sp2 = sp4
                  · refine Go.of (fun _ q => XS.icmpYes X18.here hx rfl (pc0 := 224) (pc' := 250) rfl (hb hby at_224) rfl (teq c224).1 (by decide) (by decide) q) ?_
                    show Go _ _ _ _ _ _ _ (T18.setTop (mkF m 250 #[.val (.int x1), .val (.int x2), .val (.int x3), .val (.int x4), .val (.int x5), .val (.int (Int32.ofNat k1)), .val (.int (Int32.ofNat k2)), .val (.int (Int32.ofNat k3)), .val (.int (Int32.ofNat k4)), .val (.int sp1), .val (.int sp2), .val (.int sp3), .val (.int sp4), .val (.int (Int32.ofNat j1)), .val (.int (Int32.ofNat j2)), .val (.int (Int32.ofNat j3)), .val (.int (Int32.ofNat j4)), .val (.int (Int32.ofNat jq)), .val (.int on1), .val (.int zJ15_0), .val (.int zJ17_0), .unset, .unset, .unset, .unset] []))
                    refine Go.of (fun _ q => XS.iconst X18.here hx rfl (hb hby at_250) q) ?_
                    show Go _ _ _ _ _ _ _ (T18.setTop (mkF m 251 #[.val (.int x1), .val (.int x2), .val (.int x3), .val (.int x4), .val (.int x5), .val (.int (Int32.ofNat k1)), .val (.int (Int32.ofNat k2)), .val (.int (Int32.ofNat k3)), .val (.int (Int32.ofNat k4)), .val (.int sp1), .val (.int sp2), .val (.int sp3), .val (.int sp4), .val (.int (Int32.ofNat j1)), .val (.int (Int32.ofNat j2)), .val (.int (Int32.ofNat j3)), .val (.int (Int32.ofNat j4)), .val (.int (Int32.ofNat jq)), .val (.int on1), .val (.int zJ15_0), .val (.int zJ17_0), .unset, .unset, .unset, .unset] [(.int (0 : Int32))]))
                    exact J19 _ (by rw [if_neg c186, if_neg c191, if_pos c198, if_neg c205, if_neg c210, if_pos c217, if_pos c224])
                  · refine Go.of (fun _ q => XS.icmpNo X18.here hx rfl (hb hby at_224) rfl (feq c224).1 q) ?_
                    show Go _ _ _ _ _ _ _ (T18.setTop (mkF m 227 #[.val (.int x1), .val (.int x2), .val (.int x3), .val (.int x4), .val (.int x5), .val (.int (Int32.ofNat k1)), .val (.int (Int32.ofNat k2)), .val (.int (Int32.ofNat k3)), .val (.int (Int32.ofNat k4)), .val (.int sp1), .val (.int sp2), .val (.int sp3), .val (.int sp4), .val (.int (Int32.ofNat j1)), .val (.int (Int32.ofNat j2)), .val (.int (Int32.ofNat j3)), .val (.int (Int32.ofNat j4)), .val (.int (Int32.ofNat jq)), .val (.int on1), .val (.int zJ15_0), .val (.int zJ17_0), .unset, .unset, .unset, .unset] []))
                    refine Go.of (fun _ q => XS.iload X18.here hx rfl (hb hby at_227) rfl q) ?_
                    show Go _ _ _ _ _ _ _ (T18.setTop (mkF m 229 #[.val (.int x1), .val (.int x2), .val (.int x3), .val (.int x4), .val (.int x5), .val (.int (Int32.ofNat k1)), .val (.int (Int32.ofNat k2)), .val (.int (Int32.ofNat k3)), .val (.int (Int32.ofNat k4)), .val (.int sp1), .val (.int sp2), .val (.int sp3), .val (.int sp4), .val (.int (Int32.ofNat j1)), .val (.int (Int32.ofNat j2)), .val (.int (Int32.ofNat j3)), .val (.int (Int32.ofNat j4)), .val (.int (Int32.ofNat jq)), .val (.int on1), .val (.int zJ15_0), .val (.int zJ17_0), .unset, .unset, .unset, .unset] [(.int zJ17_0)]))
                    by_cases c229 : zJ17_0 = (0 : Int32)
                    · refine Go.of (fun _ q => XS.ifYes X18.here hx rfl (pc0 := 229) (pc' := 246) rfl (hb hby at_229) rfl ((if0 _ _).trans (teq c229).1) (by decide) (by decide) q) ?_
                      show Go _ _ _ _ _ _ _ (T18.setTop (mkF m 246 #[.val (.int x1), .val (.int x2), .val (.int x3), .val (.int x4), .val (.int x5), .val (.int (Int32.ofNat k1)), .val (.int (Int32.ofNat k2)), .val (.int (Int32.ofNat k3)), .val (.int (Int32.ofNat k4)), .val (.int sp1), .val (.int sp2), .val (.int sp3), .val (.int sp4), .val (.int (Int32.ofNat j1)), .val (.int (Int32.ofNat j2)), .val (.int (Int32.ofNat j3)), .val (.int (Int32.ofNat j4)), .val (.int (Int32.ofNat jq)), .val (.int on1), .val (.int zJ15_0), .val (.int zJ17_0), .unset, .unset, .unset, .unset] []))
                      refine Go.of (fun _ q => XS.iconst X18.here hx rfl (hb hby at_246) q) ?_
                      show Go _ _ _ _ _ _ _ (T18.setTop (mkF m 247 #[.val (.int x1), .val (.int x2), .val (.int x3), .val (.int x4), .val (.int x5), .val (.int (Int32.ofNat k1)), .val (.int (Int32.ofNat k2)), .val (.int (Int32.ofNat k3)), .val (.int (Int32.ofNat k4)), .val (.int sp1), .val (.int sp2), .val (.int sp3), .val (.int sp4), .val (.int (Int32.ofNat j1)), .val (.int (Int32.ofNat j2)), .val (.int (Int32.ofNat j3)), .val (.int (Int32.ofNat j4)), .val (.int (Int32.ofNat jq)), .val (.int on1), .val (.int zJ15_0), .val (.int zJ17_0), .unset, .unset, .unset, .unset] [(.int (1 : Int32))]))
                      refine Go.of (fun _ q => XS.goto X18.here hx rfl (pc0 := 247) (pc' := 251) rfl (hb hby at_247) (by decide) (by decide) q) ?_
                      show Go _ _ _ _ _ _ _ (T18.setTop (mkF m 251 #[.val (.int x1), .val (.int x2), .val (.int x3), .val (.int x4), .val (.int x5), .val (.int (Int32.ofNat k1)), .val (.int (Int32.ofNat k2)), .val (.int (Int32.ofNat k3)), .val (.int (Int32.ofNat k4)), .val (.int sp1), .val (.int sp2), .val (.int sp3), .val (.int sp4), .val (.int (Int32.ofNat j1)), .val (.int (Int32.ofNat j2)), .val (.int (Int32.ofNat j3)), .val (.int (Int32.ofNat j4)), .val (.int (Int32.ofNat jq)), .val (.int on1), .val (.int zJ15_0), .val (.int zJ17_0), .unset, .unset, .unset, .unset] [(.int (1 : Int32))]))
                      exact J19 _ (by rw [if_neg c186, if_neg c191, if_pos c198, if_neg c205, if_neg c210, if_pos c217, if_neg c224, if_pos c229])
                    · refine Go.of (fun _ q => XS.ifNo X18.here hx rfl (hb hby at_229) rfl ((if0 _ _).trans (feq c229).1) q) ?_
                      show Go _ _ _ _ _ _ _ (T18.setTop (mkF m 232 #[.val (.int x1), .val (.int x2), .val (.int x3), .val (.int x4), .val (.int x5), .val (.int (Int32.ofNat k1)), .val (.int (Int32.ofNat k2)), .val (.int (Int32.ofNat k3)), .val (.int (Int32.ofNat k4)), .val (.int sp1), .val (.int sp2), .val (.int sp3), .val (.int sp4), .val (.int (Int32.ofNat j1)), .val (.int (Int32.ofNat j2)), .val (.int (Int32.ofNat j3)), .val (.int (Int32.ofNat j4)), .val (.int (Int32.ofNat jq)), .val (.int on1), .val (.int zJ15_0), .val (.int zJ17_0), .unset, .unset, .unset, .unset] []))
                      refine Go.of (fun _ q => XS.iload X18.here hx rfl (hb hby at_232) rfl q) ?_
                      show Go _ _ _ _ _ _ _ (T18.setTop (mkF m 234 #[.val (.int x1), .val (.int x2), .val (.int x3), .val (.int x4), .val (.int x5), .val (.int (Int32.ofNat k1)), .val (.int (Int32.ofNat k2)), .val (.int (Int32.ofNat k3)), .val (.int (Int32.ofNat k4)), .val (.int sp1), .val (.int sp2), .val (.int sp3), .val (.int sp4), .val (.int (Int32.ofNat j1)), .val (.int (Int32.ofNat j2)), .val (.int (Int32.ofNat j3)), .val (.int (Int32.ofNat j4)), .val (.int (Int32.ofNat jq)), .val (.int on1), .val (.int zJ15_0), .val (.int zJ17_0), .unset, .unset, .unset, .unset] [(.int (Int32.ofNat k3))]))
                      refine Go.of (fun _ q => XS.iload X18.here hx rfl (hb hby at_234) rfl q) ?_
                      show Go _ _ _ _ _ _ _ (T18.setTop (mkF m 236 #[.val (.int x1), .val (.int x2), .val (.int x3), .val (.int x4), .val (.int x5), .val (.int (Int32.ofNat k1)), .val (.int (Int32.ofNat k2)), .val (.int (Int32.ofNat k3)), .val (.int (Int32.ofNat k4)), .val (.int sp1), .val (.int sp2), .val (.int sp3), .val (.int sp4), .val (.int (Int32.ofNat j1)), .val (.int (Int32.ofNat j2)), .val (.int (Int32.ofNat j3)), .val (.int (Int32.ofNat j4)), .val (.int (Int32.ofNat jq)), .val (.int on1), .val (.int zJ15_0), .val (.int zJ17_0), .unset, .unset, .unset, .unset] [(.int (Int32.ofNat k4)), (.int (Int32.ofNat k3))]))
                      by_cases c236 : (Int32.ofNat k3) = (Int32.ofNat k4)
                      · refine Go.of (fun _ q => XS.icmpNo X18.here hx rfl (hb hby at_236) rfl (teq c236).2 q) ?_
                        show Go _ _ _ _ _ _ _ (T18.setTop (mkF m 239 #[.val (.int x1), .val (.int x2), .val (.int x3), .val (.int x4), .val (.int x5), .val (.int (Int32.ofNat k1)), .val (.int (Int32.ofNat k2)), .val (.int (Int32.ofNat k3)), .val (.int (Int32.ofNat k4)), .val (.int sp1), .val (.int sp2), .val (.int sp3), .val (.int sp4), .val (.int (Int32.ofNat j1)), .val (.int (Int32.ofNat j2)), .val (.int (Int32.ofNat j3)), .val (.int (Int32.ofNat j4)), .val (.int (Int32.ofNat jq)), .val (.int on1), .val (.int zJ15_0), .val (.int zJ17_0), .unset, .unset, .unset, .unset] []))
                        refine Go.of (fun _ q => XS.iload X18.here hx rfl (hb hby at_239) rfl q) ?_
                        show Go _ _ _ _ _ _ _ (T18.setTop (mkF m 241 #[.val (.int x1), .val (.int x2), .val (.int x3), .val (.int x4), .val (.int x5), .val (.int (Int32.ofNat k1)), .val (.int (Int32.ofNat k2)), .val (.int (Int32.ofNat k3)), .val (.int (Int32.ofNat k4)), .val (.int sp1), .val (.int sp2), .val (.int sp3), .val (.int sp4), .val (.int (Int32.ofNat j1)), .val (.int (Int32.ofNat j2)), .val (.int (Int32.ofNat j3)), .val (.int (Int32.ofNat j4)), .val (.int (Int32.ofNat jq)), .val (.int on1), .val (.int zJ15_0), .val (.int zJ17_0), .unset, .unset, .unset, .unset] [(.int sp3)]))
                        refine Go.of (fun _ q => XS.iload X18.here hx rfl (hb hby at_241) rfl q) ?_
                        show Go _ _ _ _ _ _ _ (T18.setTop (mkF m 243 #[.val (.int x1), .val (.int x2), .val (.int x3), .val (.int x4), .val (.int x5), .val (.int (Int32.ofNat k1)), .val (.int (Int32.ofNat k2)), .val (.int (Int32.ofNat k3)), .val (.int (Int32.ofNat k4)), .val (.int sp1), .val (.int sp2), .val (.int sp3), .val (.int sp4), .val (.int (Int32.ofNat j1)), .val (.int (Int32.ofNat j2)), .val (.int (Int32.ofNat j3)), .val (.int (Int32.ofNat j4)), .val (.int (Int32.ofNat jq)), .val (.int on1), .val (.int zJ15_0), .val (.int zJ17_0), .unset, .unset, .unset, .unset] [(.int sp4), (.int sp3)]))
                        by_cases c243 : sp3 = sp4
                        · refine Go.of (fun _ q => XS.icmpYes X18.here hx rfl (pc0 := 243) (pc' := 250) rfl (hb hby at_243) rfl (teq c243).1 (by decide) (by decide) q) ?_
                          show Go _ _ _ _ _ _ _ (T18.setTop (mkF m 250 #[.val (.int x1), .val (.int x2), .val (.int x3), .val (.int x4), .val (.int x5), .val (.int (Int32.ofNat k1)), .val (.int (Int32.ofNat k2)), .val (.int (Int32.ofNat k3)), .val (.int (Int32.ofNat k4)), .val (.int sp1), .val (.int sp2), .val (.int sp3), .val (.int sp4), .val (.int (Int32.ofNat j1)), .val (.int (Int32.ofNat j2)), .val (.int (Int32.ofNat j3)), .val (.int (Int32.ofNat j4)), .val (.int (Int32.ofNat jq)), .val (.int on1), .val (.int zJ15_0), .val (.int zJ17_0), .unset, .unset, .unset, .unset] []))
                          refine Go.of (fun _ q => XS.iconst X18.here hx rfl (hb hby at_250) q) ?_
                          show Go _ _ _ _ _ _ _ (T18.setTop (mkF m 251 #[.val (.int x1), .val (.int x2), .val (.int x3), .val (.int x4), .val (.int x5), .val (.int (Int32.ofNat k1)), .val (.int (Int32.ofNat k2)), .val (.int (Int32.ofNat k3)), .val (.int (Int32.ofNat k4)), .val (.int sp1), .val (.int sp2), .val (.int sp3), .val (.int sp4), .val (.int (Int32.ofNat j1)), .val (.int (Int32.ofNat j2)), .val (.int (Int32.ofNat j3)), .val (.int (Int32.ofNat j4)), .val (.int (Int32.ofNat jq)), .val (.int on1), .val (.int zJ15_0), .val (.int zJ17_0), .unset, .unset, .unset, .unset] [(.int (0 : Int32))]))
                          exact J19 _ (by rw [if_neg c186, if_neg c191, if_pos c198, if_neg c205, if_neg c210, if_pos c217, if_neg c224, if_neg c229, if_pos c236, if_pos c243])
                        · refine Go.of (fun _ q => XS.icmpNo X18.here hx rfl (hb hby at_243) rfl (feq c243).1 q) ?_
                          show Go _ _ _ _ _ _ _ (T18.setTop (mkF m 246 #[.val (.int x1), .val (.int x2), .val (.int x3), .val (.int x4), .val (.int x5), .val (.int (Int32.ofNat k1)), .val (.int (Int32.ofNat k2)), .val (.int (Int32.ofNat k3)), .val (.int (Int32.ofNat k4)), .val (.int sp1), .val (.int sp2), .val (.int sp3), .val (.int sp4), .val (.int (Int32.ofNat j1)), .val (.int (Int32.ofNat j2)), .val (.int (Int32.ofNat j3)), .val (.int (Int32.ofNat j4)), .val (.int (Int32.ofNat jq)), .val (.int on1), .val (.int zJ15_0), .val (.int zJ17_0), .unset, .unset, .unset, .unset] []))
                          refine Go.of (fun _ q => XS.iconst X18.here hx rfl (hb hby at_246) q) ?_
                          show Go _ _ _ _ _ _ _ (T18.setTop (mkF m 247 #[.val (.int x1), .val (.int x2), .val (.int x3), .val (.int x4), .val (.int x5), .val (.int (Int32.ofNat k1)), .val (.int (Int32.ofNat k2)), .val (.int (Int32.ofNat k3)), .val (.int (Int32.ofNat k4)), .val (.int sp1), .val (.int sp2), .val (.int sp3), .val (.int sp4), .val (.int (Int32.ofNat j1)), .val (.int (Int32.ofNat j2)), .val (.int (Int32.ofNat j3)), .val (.int (Int32.ofNat j4)), .val (.int (Int32.ofNat jq)), .val (.int on1), .val (.int zJ15_0), .val (.int zJ17_0), .unset, .unset, .unset, .unset] [(.int (1 : Int32))]))
                          refine Go.of (fun _ q => XS.goto X18.here hx rfl (pc0 := 247) (pc' := 251) rfl (hb hby at_247) (by decide) (by decide) q) ?_
                          show Go _ _ _ _ _ _ _ (T18.setTop (mkF m 251 #[.val (.int x1), .val (.int x2), .val (.int x3), .val (.int x4), .val (.int x5), .val (.int (Int32.ofNat k1)), .val (.int (Int32.ofNat k2)), .val (.int (Int32.ofNat k3)), .val (.int (Int32.ofNat k4)), .val (.int sp1), .val (.int sp2), .val (.int sp3), .val (.int sp4), .val (.int (Int32.ofNat j1)), .val (.int (Int32.ofNat j2)), .val (.int (Int32.ofNat j3)), .val (.int (Int32.ofNat j4)), .val (.int (Int32.ofNat jq)), .val (.int on1), .val (.int zJ15_0), .val (.int zJ17_0), .unset, .unset, .unset, .unset] [(.int (1 : Int32))]))
                          exact J19 _ (by rw [if_neg c186, if_neg c191, if_pos c198, if_neg c205, if_neg c210, if_pos c217, if_neg c224, if_neg c229, if_pos c236, if_neg c243])
                      · refine Go.of (fun _ q => XS.icmpYes X18.here hx rfl (pc0 := 236) (pc' := 246) rfl (hb hby at_236) rfl (feq c236).2 (by decide) (by decide) q) ?_
                        show Go _ _ _ _ _ _ _ (T18.setTop (mkF m 246 #[.val (.int x1), .val (.int x2), .val (.int x3), .val (.int x4), .val (.int x5), .val (.int (Int32.ofNat k1)), .val (.int (Int32.ofNat k2)), .val (.int (Int32.ofNat k3)), .val (.int (Int32.ofNat k4)), .val (.int sp1), .val (.int sp2), .val (.int sp3), .val (.int sp4), .val (.int (Int32.ofNat j1)), .val (.int (Int32.ofNat j2)), .val (.int (Int32.ofNat j3)), .val (.int (Int32.ofNat j4)), .val (.int (Int32.ofNat jq)), .val (.int on1), .val (.int zJ15_0), .val (.int zJ17_0), .unset, .unset, .unset, .unset] []))
                        refine Go.of (fun _ q => XS.iconst X18.here hx rfl (hb hby at_246) q) ?_
                        show Go _ _ _ _ _ _ _ (T18.setTop (mkF m 247 #[.val (.int x1), .val (.int x2), .val (.int x3), .val (.int x4), .val (.int x5), .val (.int (Int32.ofNat k1)), .val (.int (Int32.ofNat k2)), .val (.int (Int32.ofNat k3)), .val (.int (Int32.ofNat k4)), .val (.int sp1), .val (.int sp2), .val (.int sp3), .val (.int sp4), .val (.int (Int32.ofNat j1)), .val (.int (Int32.ofNat j2)), .val (.int (Int32.ofNat j3)), .val (.int (Int32.ofNat j4)), .val (.int (Int32.ofNat jq)), .val (.int on1), .val (.int zJ15_0), .val (.int zJ17_0), .unset, .unset, .unset, .unset] [(.int (1 : Int32))]))
                        refine Go.of (fun _ q => XS.goto X18.here hx rfl (pc0 := 247) (pc' := 251) rfl (hb hby at_247) (by decide) (by decide) q) ?_
                        show Go _ _ _ _ _ _ _ (T18.setTop (mkF m 251 #[.val (.int x1), .val (.int x2), .val (.int x3), .val (.int x4), .val (.int x5), .val (.int (Int32.ofNat k1)), .val (.int (Int32.ofNat k2)), .val (.int (Int32.ofNat k3)), .val (.int (Int32.ofNat k4)), .val (.int sp1), .val (.int sp2), .val (.int sp3), .val (.int sp4), .val (.int (Int32.ofNat j1)), .val (.int (Int32.ofNat j2)), .val (.int (Int32.ofNat j3)), .val (.int (Int32.ofNat j4)), .val (.int (Int32.ofNat jq)), .val (.int on1), .val (.int zJ15_0), .val (.int zJ17_0), .unset, .unset, .unset, .unset] [(.int (1 : Int32))]))
                        exact J19 _ (by rw [if_neg c186, if_neg c191, if_pos c198, if_neg c205, if_neg c210, if_pos c217, if_neg c224, if_neg c229, if_neg c236])
                · refine Go.of (fun _ q => XS.icmpYes X18.here hx rfl (pc0 := 217) (pc' := 227) rfl (hb hby at_217) rfl (feq c217).2 (by decide) (by decide) q) ?_
                  show Go _ _ _ _ _ _ _ (T18.setTop (mkF m 227 #[.val (.int x1), .val (.int x2), .val (.int x3), .val (.int x4), .val (.int x5), .val (.int (Int32.ofNat k1)), .val (.int (Int32.ofNat k2)), .val (.int (Int32.ofNat k3)), .val (.int (Int32.ofNat k4)), .val (.int sp1), .val (.int sp2), .val (.int sp3), .val (.int sp4), .val (.int (Int32.ofNat j1)), .val (.int (Int32.ofNat j2)), .val (.int (Int32.ofNat j3)), .val (.int (Int32.ofNat j4)), .val (.int (Int32.ofNat jq)), .val (.int on1), .val (.int zJ15_0), .val (.int zJ17_0), .unset, .unset, .unset, .unset] []))
                  refine Go.of (fun _ q => XS.iload X18.here hx rfl (hb hby at_227) rfl q) ?_
                  show Go _ _ _ _ _ _ _ (T18.setTop (mkF m 229 #[.val (.int x1), .val (.int x2), .val (.int x3), .val (.int x4), .val (.int x5), .val (.int (Int32.ofNat k1)), .val (.int (Int32.ofNat k2)), .val (.int (Int32.ofNat k3)), .val (.int (Int32.ofNat k4)), .val (.int sp1), .val (.int sp2), .val (.int sp3), .val (.int sp4), .val (.int (Int32.ofNat j1)), .val (.int (Int32.ofNat j2)), .val (.int (Int32.ofNat j3)), .val (.int (Int32.ofNat j4)), .val (.int (Int32.ofNat jq)), .val (.int on1), .val (.int zJ15_0), .val (.int zJ17_0), .unset, .unset, .unset, .unset] [(.int zJ17_0)]))
                  by_cases c229 : zJ17_0 = (0 : Int32)
                  · refine Go.of (fun _ q => XS.ifYes X18.here hx rfl (pc0 := 229) (pc' := 246) rfl (hb hby at_229) rfl ((if0 _ _).trans (teq c229).1) (by decide) (by decide) q) ?_
                    show Go _ _ _ _ _ _ _ (T18.setTop (mkF m 246 #[.val (.int x1), .val (.int x2), .val (.int x3), .val (.int x4), .val (.int x5), .val (.int (Int32.ofNat k1)), .val (.int (Int32.ofNat k2)), .val (.int (Int32.ofNat k3)), .val (.int (Int32.ofNat k4)), .val (.int sp1), .val (.int sp2), .val (.int sp3), .val (.int sp4), .val (.int (Int32.ofNat j1)), .val (.int (Int32.ofNat j2)), .val (.int (Int32.ofNat j3)), .val (.int (Int32.ofNat j4)), .val (.int (Int32.ofNat jq)), .val (.int on1), .val (.int zJ15_0), .val (.int zJ17_0), .unset, .unset, .unset, .unset] []))
                    refine Go.of (fun _ q => XS.iconst X18.here hx rfl (hb hby at_246) q) ?_
                    show Go _ _ _ _ _ _ _ (T18.setTop (mkF m 247 #[.val (.int x1), .val (.int x2), .val (.int x3), .val (.int x4), .val (.int x5), .val (.int (Int32.ofNat k1)), .val (.int (Int32.ofNat k2)), .val (.int (Int32.ofNat k3)), .val (.int (Int32.ofNat k4)), .val (.int sp1), .val (.int sp2), .val (.int sp3), .val (.int sp4), .val (.int (Int32.ofNat j1)), .val (.int (Int32.ofNat j2)), .val (.int (Int32.ofNat j3)), .val (.int (Int32.ofNat j4)), .val (.int (Int32.ofNat jq)), .val (.int on1), .val (.int zJ15_0), .val (.int zJ17_0), .unset, .unset, .unset, .unset] [(.int (1 : Int32))]))
                    refine Go.of (fun _ q => XS.goto X18.here hx rfl (pc0 := 247) (pc' := 251) rfl (hb hby at_247) (by decide) (by decide) q) ?_
                    show Go _ _ _ _ _ _ _ (T18.setTop (mkF m 251 #[.val (.int x1), .val (.int x2), .val (.int x3), .val (.int x4), .val (.int x5), .val (.int (Int32.ofNat k1)), .val (.int (Int32.ofNat k2)), .val (.int (Int32.ofNat k3)), .val (.int (Int32.ofNat k4)), .val (.int sp1), .val (.int sp2), .val (.int sp3), .val (.int sp4), .val (.int (Int32.ofNat j1)), .val (.int (Int32.ofNat j2)), .val (.int (Int32.ofNat j3)), .val (.int (Int32.ofNat j4)), .val (.int (Int32.ofNat jq)), .val (.int on1), .val (.int zJ15_0), .val (.int zJ17_0), .unset, .unset, .unset, .unset] [(.int (1 : Int32))]))
                    exact J19 _ (by rw [if_neg c186, if_neg c191, if_pos c198, if_neg c205, if_neg c210, if_neg c217, if_pos c229])
                  · refine Go.of (fun _ q => XS.ifNo X18.here hx rfl (hb hby at_229) rfl ((if0 _ _).trans (feq c229).1) q) ?_
                    show Go _ _ _ _ _ _ _ (T18.setTop (mkF m 232 #[.val (.int x1), .val (.int x2), .val (.int x3), .val (.int x4), .val (.int x5), .val (.int (Int32.ofNat k1)), .val (.int (Int32.ofNat k2)), .val (.int (Int32.ofNat k3)), .val (.int (Int32.ofNat k4)), .val (.int sp1), .val (.int sp2), .val (.int sp3), .val (.int sp4), .val (.int (Int32.ofNat j1)), .val (.int (Int32.ofNat j2)), .val (.int (Int32.ofNat j3)), .val (.int (Int32.ofNat j4)), .val (.int (Int32.ofNat jq)), .val (.int on1), .val (.int zJ15_0), .val (.int zJ17_0), .unset, .unset, .unset, .unset] []))
                    refine Go.of (fun _ q => XS.iload X18.here hx rfl (hb hby at_232) rfl q) ?_
                    show Go _ _ _ _ _ _ _ (T18.setTop (mkF m 234 #[.val (.int x1), .val (.int x2), .val (.int x3), .val (.int x4), .val (.int x5), .val (.int (Int32.ofNat k1)), .val (.int (Int32.ofNat k2)), .val (.int (Int32.ofNat k3)), .val (.int (Int32.ofNat k4)), .val (.int sp1), .val (.int sp2), .val (.int sp3), .val (.int sp4), .val (.int (Int32.ofNat j1)), .val (.int (Int32.ofNat j2)), .val (.int (Int32.ofNat j3)), .val (.int (Int32.ofNat j4)), .val (.int (Int32.ofNat jq)), .val (.int on1), .val (.int zJ15_0), .val (.int zJ17_0), .unset, .unset, .unset, .unset] [(.int (Int32.ofNat k3))]))
                    refine Go.of (fun _ q => XS.iload X18.here hx rfl (hb hby at_234) rfl q) ?_
                    show Go _ _ _ _ _ _ _ (T18.setTop (mkF m 236 #[.val (.int x1), .val (.int x2), .val (.int x3), .val (.int x4), .val (.int x5), .val (.int (Int32.ofNat k1)), .val (.int (Int32.ofNat k2)), .val (.int (Int32.ofNat k3)), .val (.int (Int32.ofNat k4)), .val (.int sp1), .val (.int sp2), .val (.int sp3), .val (.int sp4), .val (.int (Int32.ofNat j1)), .val (.int (Int32.ofNat j2)), .val (.int (Int32.ofNat j3)), .val (.int (Int32.ofNat j4)), .val (.int (Int32.ofNat jq)), .val (.int on1), .val (.int zJ15_0), .val (.int zJ17_0), .unset, .unset, .unset, .unset] [(.int (Int32.ofNat k4)), (.int (Int32.ofNat k3))]))
                    by_cases c236 : (Int32.ofNat k3) = (Int32.ofNat k4)
                    · refine Go.of (fun _ q => XS.icmpNo X18.here hx rfl (hb hby at_236) rfl (teq c236).2 q) ?_
                      show Go _ _ _ _ _ _ _ (T18.setTop (mkF m 239 #[.val (.int x1), .val (.int x2), .val (.int x3), .val (.int x4), .val (.int x5), .val (.int (Int32.ofNat k1)), .val (.int (Int32.ofNat k2)), .val (.int (Int32.ofNat k3)), .val (.int (Int32.ofNat k4)), .val (.int sp1), .val (.int sp2), .val (.int sp3), .val (.int sp4), .val (.int (Int32.ofNat j1)), .val (.int (Int32.ofNat j2)), .val (.int (Int32.ofNat j3)), .val (.int (Int32.ofNat j4)), .val (.int (Int32.ofNat jq)), .val (.int on1), .val (.int zJ15_0), .val (.int zJ17_0), .unset, .unset, .unset, .unset] []))
                      refine Go.of (fun _ q => XS.iload X18.here hx rfl (hb hby at_239) rfl q) ?_
                      show Go _ _ _ _ _ _ _ (T18.setTop (mkF m 241 #[.val (.int x1), .val (.int x2), .val (.int x3), .val (.int x4), .val (.int x5), .val (.int (Int32.ofNat k1)), .val (.int (Int32.ofNat k2)), .val (.int (Int32.ofNat k3)), .val (.int (Int32.ofNat k4)), .val (.int sp1), .val (.int sp2), .val (.int sp3), .val (.int sp4), .val (.int (Int32.ofNat j1)), .val (.int (Int32.ofNat j2)), .val (.int (Int32.ofNat j3)), .val (.int (Int32.ofNat j4)), .val (.int (Int32.ofNat jq)), .val (.int on1), .val (.int zJ15_0), .val (.int zJ17_0), .unset, .unset, .unset, .unset] [(.int sp3)]))
                      refine Go.of (fun _ q => XS.iload X18.here hx rfl (hb hby at_241) rfl q) ?_
                      show Go _ _ _ _ _ _ _ (T18.setTop (mkF m 243 #[.val (.int x1), .val (.int x2), .val (.int x3), .val (.int x4), .val (.int x5), .val (.int (Int32.ofNat k1)), .val (.int (Int32.ofNat k2)), .val (.int (Int32.ofNat k3)), .val (.int (Int32.ofNat k4)), .val (.int sp1), .val (.int sp2), .val (.int sp3), .val (.int sp4), .val (.int (Int32.ofNat j1)), .val (.int (Int32.ofNat j2)), .val (.int (Int32.ofNat j3)), .val (.int (Int32.ofNat j4)), .val (.int (Int32.ofNat jq)), .val (.int on1), .val (.int zJ15_0), .val (.int zJ17_0), .unset, .unset, .unset, .unset] [(.int sp4), (.int sp3)]))
                      by_cases c243 : sp3 = sp4
                      · refine Go.of (fun _ q => XS.icmpYes X18.here hx rfl (pc0 := 243) (pc' := 250) rfl (hb hby at_243) rfl (teq c243).1 (by decide) (by decide) q) ?_
                        show Go _ _ _ _ _ _ _ (T18.setTop (mkF m 250 #[.val (.int x1), .val (.int x2), .val (.int x3), .val (.int x4), .val (.int x5), .val (.int (Int32.ofNat k1)), .val (.int (Int32.ofNat k2)), .val (.int (Int32.ofNat k3)), .val (.int (Int32.ofNat k4)), .val (.int sp1), .val (.int sp2), .val (.int sp3), .val (.int sp4), .val (.int (Int32.ofNat j1)), .val (.int (Int32.ofNat j2)), .val (.int (Int32.ofNat j3)), .val (.int (Int32.ofNat j4)), .val (.int (Int32.ofNat jq)), .val (.int on1), .val (.int zJ15_0), .val (.int zJ17_0), .unset, .unset, .unset, .unset] []))
                        refine Go.of (fun _ q => XS.iconst X18.here hx rfl (hb hby at_250) q) ?_
                        show Go _ _ _ _ _ _ _ (T18.setTop (mkF m 251 #[.val (.int x1), .val (.int x2), .val (.int x3), .val (.int x4), .val (.int x5), .val (.int (Int32.ofNat k1)), .val (.int (Int32.ofNat k2)), .val (.int (Int32.ofNat k3)), .val (.int (Int32.ofNat k4)), .val (.int sp1), .val (.int sp2), .val (.int sp3), .val (.int sp4), .val (.int (Int32.ofNat j1)), .val (.int (Int32.ofNat j2)), .val (.int (Int32.ofNat j3)), .val (.int (Int32.ofNat j4)), .val (.int (Int32.ofNat jq)), .val (.int on1), .val (.int zJ15_0), .val (.int zJ17_0), .unset, .unset, .unset, .unset] [(.int (0 : Int32))]))
                        exact J19 _ (by rw [if_neg c186, if_neg c191, if_pos c198, if_neg c205, if_neg c210, if_neg c217, if_neg c229, if_pos c236, if_pos c243])
                      · refine Go.of (fun _ q => XS.icmpNo X18.here hx rfl (hb hby at_243) rfl (feq c243).1 q) ?_
                        show Go _ _ _ _ _ _ _ (T18.setTop (mkF m 246 #[.val (.int x1), .val (.int x2), .val (.int x3), .val (.int x4), .val (.int x5), .val (.int (Int32.ofNat k1)), .val (.int (Int32.ofNat k2)), .val (.int (Int32.ofNat k3)), .val (.int (Int32.ofNat k4)), .val (.int sp1), .val (.int sp2), .val (.int sp3), .val (.int sp4), .val (.int (Int32.ofNat j1)), .val (.int (Int32.ofNat j2)), .val (.int (Int32.ofNat j3)), .val (.int (Int32.ofNat j4)), .val (.int (Int32.ofNat jq)), .val (.int on1), .val (.int zJ15_0), .val (.int zJ17_0), .unset, .unset, .unset, .unset] []))
                        refine Go.of (fun _ q => XS.iconst X18.here hx rfl (hb hby at_246) q) ?_
                        show Go _ _ _ _ _ _ _ (T18.setTop (mkF m 247 #[.val (.int x1), .val (.int x2), .val (.int x3), .val (.int x4), .val (.int x5), .val (.int (Int32.ofNat k1)), .val (.int (Int32.ofNat k2)), .val (.int (Int32.ofNat k3)), .val (.int (Int32.ofNat k4)), .val (.int sp1), .val (.int sp2), .val (.int sp3), .val (.int sp4), .val (.int (Int32.ofNat j1)), .val (.int (Int32.ofNat j2)), .val (.int (Int32.ofNat j3)), .val (.int (Int32.ofNat j4)), .val (.int (Int32.ofNat jq)), .val (.int on1), .val (.int zJ15_0), .val (.int zJ17_0), .unset, .unset, .unset, .unset] [(.int (1 : Int32))]))
                        refine Go.of (fun _ q => XS.goto X18.here hx rfl (pc0 := 247) (pc' := 251) rfl (hb hby at_247) (by decide) (by decide) q) ?_
                        show Go _ _ _ _ _ _ _ (T18.setTop (mkF m 251 #[.val (.int x1), .val (.int x2), .val (.int x3), .val (.int x4), .val (.int x5), .val (.int (Int32.ofNat k1)), .val (.int (Int32.ofNat k2)), .val (.int (Int32.ofNat k3)), .val (.int (Int32.ofNat k4)), .val (.int sp1), .val (.int sp2), .val (.int sp3), .val (.int sp4), .val (.int (Int32.ofNat j1)), .val (.int (Int32.ofNat j2)), .val (.int (Int32.ofNat j3)), .val (.int (Int32.ofNat j4)), .val (.int (Int32.ofNat jq)), .val (.int on1), .val (.int zJ15_0), .val (.int zJ17_0), .unset, .unset, .unset, .unset] [(.int (1 : Int32))]))
                        exact J19 _ (by rw [if_neg c186, if_neg c191, if_pos c198, if_neg c205, if_neg c210, if_neg c217, if_neg c229, if_pos c236, if_neg c243])
                    · refine Go.of (fun _ q => XS.icmpYes X18.here hx rfl (pc0 := 236) (pc' := 246) rfl (hb hby at_236) rfl (feq c236).2 (by decide) (by decide) q) ?_
                      show Go _ _ _ _ _ _ _ (T18.setTop (mkF m 246 #[.val (.int x1), .val (.int x2), .val (.int x3), .val (.int x4), .val (.int x5), .val (.int (Int32.ofNat k1)), .val (.int (Int32.ofNat k2)), .val (.int (Int32.ofNat k3)), .val (.int (Int32.ofNat k4)), .val (.int sp1), .val (.int sp2), .val (.int sp3), .val (.int sp4), .val (.int (Int32.ofNat j1)), .val (.int (Int32.ofNat j2)), .val (.int (Int32.ofNat j3)), .val (.int (Int32.ofNat j4)), .val (.int (Int32.ofNat jq)), .val (.int on1), .val (.int zJ15_0), .val (.int zJ17_0), .unset, .unset, .unset, .unset] []))
                      refine Go.of (fun _ q => XS.iconst X18.here hx rfl (hb hby at_246) q) ?_
                      show Go _ _ _ _ _ _ _ (T18.setTop (mkF m 247 #[.val (.int x1), .val (.int x2), .val (.int x3), .val (.int x4), .val (.int x5), .val (.int (Int32.ofNat k1)), .val (.int (Int32.ofNat k2)), .val (.int (Int32.ofNat k3)), .val (.int (Int32.ofNat k4)), .val (.int sp1), .val (.int sp2), .val (.int sp3), .val (.int sp4), .val (.int (Int32.ofNat j1)), .val (.int (Int32.ofNat j2)), .val (.int (Int32.ofNat j3)), .val (.int (Int32.ofNat j4)), .val (.int (Int32.ofNat jq)), .val (.int on1), .val (.int zJ15_0), .val (.int zJ17_0), .unset, .unset, .unset, .unset] [(.int (1 : Int32))]))
                      refine Go.of (fun _ q => XS.goto X18.here hx rfl (pc0 := 247) (pc' := 251) rfl (hb hby at_247) (by decide) (by decide) q) ?_
                      show Go _ _ _ _ _ _ _ (T18.setTop (mkF m 251 #[.val (.int x1), .val (.int x2), .val (.int x3), .val (.int x4), .val (.int x5), .val (.int (Int32.ofNat k1)), .val (.int (Int32.ofNat k2)), .val (.int (Int32.ofNat k3)), .val (.int (Int32.ofNat k4)), .val (.int sp1), .val (.int sp2), .val (.int sp3), .val (.int sp4), .val (.int (Int32.ofNat j1)), .val (.int (Int32.ofNat j2)), .val (.int (Int32.ofNat j3)), .val (.int (Int32.ofNat j4)), .val (.int (Int32.ofNat jq)), .val (.int on1), .val (.int zJ15_0), .val (.int zJ17_0), .unset, .unset, .unset, .unset] [(.int (1 : Int32))]))
                      exact J19 _ (by rw [if_neg c186, if_neg c191, if_pos c198, if_neg c205, if_neg c210, if_neg c217, if_neg c229, if_neg c236])
          · refine Go.of (fun _ q => XS.icmpYes X18.here hx rfl (pc0 := 198) (pc' := 208) rfl (hb hby at_198) rfl (feq c198).2 (by decide) (by decide) q) ?_
            show Go _ _ _ _ _ _ _ (T18.setTop (mkF m 208 #[.val (.int x1), .val (.int x2), .val (.int x3), .val (.int x4), .val (.int x5), .val (.int (Int32.ofNat k1)), .val (.int (Int32.ofNat k2)), .val (.int (Int32.ofNat k3)), .val (.int (Int32.ofNat k4)), .val (.int sp1), .val (.int sp2), .val (.int sp3), .val (.int sp4), .val (.int (Int32.ofNat j1)), .val (.int (Int32.ofNat j2)), .val (.int (Int32.ofNat j3)), .val (.int (Int32.ofNat j4)), .val (.int (Int32.ofNat jq)), .val (.int on1), .val (.int zJ15_0), .val (.int zJ17_0), .unset, .unset, .unset, .unset] []))
            refine Go.of (fun _ q => XS.iload X18.here hx rfl (hb hby at_208) rfl q) ?_
            show Go _ _ _ _ _ _ _ (T18.setTop (mkF m 210 #[.val (.int x1), .val (.int x2), .val (.int x3), .val (.int x4), .val (.int x5), .val (.int (Int32.ofNat k1)), .val (.int (Int32.ofNat k2)), .val (.int (Int32.ofNat k3)), .val (.int (Int32.ofNat k4)), .val (.int sp1), .val (.int sp2), .val (.int sp3), .val (.int sp4), .val (.int (Int32.ofNat j1)), .val (.int (Int32.ofNat j2)), .val (.int (Int32.ofNat j3)), .val (.int (Int32.ofNat j4)), .val (.int (Int32.ofNat jq)), .val (.int on1), .val (.int zJ15_0), .val (.int zJ17_0), .unset, .unset, .unset, .unset] [(.int zJ15_0)]))
            by_cases c210 : zJ15_0 = (0 : Int32)
            · refine Go.of (fun _ q => XS.ifYes X18.here hx rfl (pc0 := 210) (pc' := 227) rfl (hb hby at_210) rfl ((if0 _ _).trans (teq c210).1) (by decide) (by decide) q) ?_
              show Go _ _ _ _ _ _ _ (T18.setTop (mkF m 227 #[.val (.int x1), .val (.int x2), .val (.int x3), .val (.int x4), .val (.int x5), .val (.int (Int32.ofNat k1)), .val (.int (Int32.ofNat k2)), .val (.int (Int32.ofNat k3)), .val (.int (Int32.ofNat k4)), .val (.int sp1), .val (.int sp2), .val (.int sp3), .val (.int sp4), .val (.int (Int32.ofNat j1)), .val (.int (Int32.ofNat j2)), .val (.int (Int32.ofNat j3)), .val (.int (Int32.ofNat j4)), .val (.int (Int32.ofNat jq)), .val (.int on1), .val (.int zJ15_0), .val (.int zJ17_0), .unset, .unset, .unset, .unset] []))
              refine Go.of (fun _ q => XS.iload X18.here hx rfl (hb hby at_227) rfl q) ?_
              show Go _ _ _ _ _ _ _ (T18.setTop (mkF m 229 #[.val (.int x1), .val (.int x2), .val (.int x3), .val (.int x4), .val (.int x5), .val (.int (Int32.ofNat k1)), .val (.int (Int32.ofNat k2)), .val (.int (Int32.ofNat k3)), .val (.int (Int32.ofNat k4)), .val (.int sp1), .val (.int sp2), .val (.int sp3), .val (.int sp4), .val (.int (Int32.ofNat j1)), .val (.int (Int32.ofNat j2)), .val (.int (Int32.ofNat j3)), .val (.int (Int32.ofNat j4)), .val (.int (Int32.ofNat jq)), .val (.int on1), .val (.int zJ15_0), .val (.int zJ17_0), .unset, .unset, .unset, .unset] [(.int zJ17_0)]))
              by_cases c229 : zJ17_0 = (0 : Int32)
              · refine Go.of (fun _ q => XS.ifYes X18.here hx rfl (pc0 := 229) (pc' := 246) rfl (hb hby at_229) rfl ((if0 _ _).trans (teq c229).1) (by decide) (by decide) q) ?_
                show Go _ _ _ _ _ _ _ (T18.setTop (mkF m 246 #[.val (.int x1), .val (.int x2), .val (.int x3), .val (.int x4), .val (.int x5), .val (.int (Int32.ofNat k1)), .val (.int (Int32.ofNat k2)), .val (.int (Int32.ofNat k3)), .val (.int (Int32.ofNat k4)), .val (.int sp1), .val (.int sp2), .val (.int sp3), .val (.int sp4), .val (.int (Int32.ofNat j1)), .val (.int (Int32.ofNat j2)), .val (.int (Int32.ofNat j3)), .val (.int (Int32.ofNat j4)), .val (.int (Int32.ofNat jq)), .val (.int on1), .val (.int zJ15_0), .val (.int zJ17_0), .unset, .unset, .unset, .unset] []))
                refine Go.of (fun _ q => XS.iconst X18.here hx rfl (hb hby at_246) q) ?_
                show Go _ _ _ _ _ _ _ (T18.setTop (mkF m 247 #[.val (.int x1), .val (.int x2), .val (.int x3), .val (.int x4), .val (.int x5), .val (.int (Int32.ofNat k1)), .val (.int (Int32.ofNat k2)), .val (.int (Int32.ofNat k3)), .val (.int (Int32.ofNat k4)), .val (.int sp1), .val (.int sp2), .val (.int sp3), .val (.int sp4), .val (.int (Int32.ofNat j1)), .val (.int (Int32.ofNat j2)), .val (.int (Int32.ofNat j3)), .val (.int (Int32.ofNat j4)), .val (.int (Int32.ofNat jq)), .val (.int on1), .val (.int zJ15_0), .val (.int zJ17_0), .unset, .unset, .unset, .unset] [(.int (1 : Int32))]))
                refine Go.of (fun _ q => XS.goto X18.here hx rfl (pc0 := 247) (pc' := 251) rfl (hb hby at_247) (by decide) (by decide) q) ?_
                show Go _ _ _ _ _ _ _ (T18.setTop (mkF m 251 #[.val (.int x1), .val (.int x2), .val (.int x3), .val (.int x4), .val (.int x5), .val (.int (Int32.ofNat k1)), .val (.int (Int32.ofNat k2)), .val (.int (Int32.ofNat k3)), .val (.int (Int32.ofNat k4)), .val (.int sp1), .val (.int sp2), .val (.int sp3), .val (.int sp4), .val (.int (Int32.ofNat j1)), .val (.int (Int32.ofNat j2)), .val (.int (Int32.ofNat j3)), .val (.int (Int32.ofNat j4)), .val (.int (Int32.ofNat jq)), .val (.int on1), .val (.int zJ15_0), .val (.int zJ17_0), .unset, .unset, .unset, .unset] [(.int (1 : Int32))]))
                exact J19 _ (by rw [if_neg c186, if_neg c191, if_neg c198, if_pos c210, if_pos c229])
              · refine Go.of (fun _ q => XS.ifNo X18.here hx rfl (hb hby at_229) rfl ((if0 _ _).trans (feq c229).1) q) ?_
                show Go _ _ _ _ _ _ _ (T18.setTop (mkF m 232 #[.val (.int x1), .val (.int x2), .val (.int x3), .val (.int x4), .val (.int x5), .val (.int (Int32.ofNat k1)), .val (.int (Int32.ofNat k2)), .val (.int (Int32.ofNat k3)), .val (.int (Int32.ofNat k4)), .val (.int sp1), .val (.int sp2), .val (.int sp3), .val (.int sp4), .val (.int (Int32.ofNat j1)), .val (.int (Int32.ofNat j2)), .val (.int (Int32.ofNat j3)), .val (.int (Int32.ofNat j4)), .val (.int (Int32.ofNat jq)), .val (.int on1), .val (.int zJ15_0), .val (.int zJ17_0), .unset, .unset, .unset, .unset] []))
                refine Go.of (fun _ q => XS.iload X18.here hx rfl (hb hby at_232) rfl q) ?_
                show Go _ _ _ _ _ _ _ (T18.setTop (mkF m 234 #[.val (.int x1), .val (.int x2), .val (.int x3), .val (.int x4), .val (.int x5), .val (.int (Int32.ofNat k1)), .val (.int (Int32.ofNat k2)), .val (.int (Int32.ofNat k3)), .val (.int (Int32.ofNat k4)), .val (.int sp1), .val (.int sp2), .val (.int sp3), .val (.int sp4), .val (.int (Int32.ofNat j1)), .val (.int (Int32.ofNat j2)), .val (.int (Int32.ofNat j3)), .val (.int (Int32.ofNat j4)), .val (.int (Int32.ofNat jq)), .val (.int on1), .val (.int zJ15_0), .val (.int zJ17_0), .unset, .unset, .unset, .unset] [(.int (Int32.ofNat k3))]))
                refine Go.of (fun _ q => XS.iload X18.here hx rfl (hb hby at_234) rfl q) ?_
                show Go _ _ _ _ _ _ _ (T18.setTop (mkF m 236 #[.val (.int x1), .val (.int x2), .val (.int x3), .val (.int x4), .val (.int x5), .val (.int (Int32.ofNat k1)), .val (.int (Int32.ofNat k2)), .val (.int (Int32.ofNat k3)), .val (.int (Int32.ofNat k4)), .val (.int sp1), .val (.int sp2), .val (.int sp3), .val (.int sp4), .val (.int (Int32.ofNat j1)), .val (.int (Int32.ofNat j2)), .val (.int (Int32.ofNat j3)), .val (.int (Int32.ofNat j4)), .val (.int (Int32.ofNat jq)), .val (.int on1), .val (.int zJ15_0), .val (.int zJ17_0), .unset, .unset, .unset, .unset] [(.int (Int32.ofNat k4)), (.int (Int32.ofNat k3))]))
                by_cases c236 : (Int32.ofNat k3) = (Int32.ofNat k4)
                · refine Go.of (fun _ q => XS.icmpNo X18.here hx rfl (hb hby at_236) rfl (teq c236).2 q) ?_
                  show Go _ _ _ _ _ _ _ (T18.setTop (mkF m 239 #[.val (.int x1), .val (.int x2), .val (.int x3), .val (.int x4), .val (.int x5), .val (.int (Int32.ofNat k1)), .val (.int (Int32.ofNat k2)), .val (.int (Int32.ofNat k3)), .val (.int (Int32.ofNat k4)), .val (.int sp1), .val (.int sp2), .val (.int sp3), .val (.int sp4), .val (.int (Int32.ofNat j1)), .val (.int (Int32.ofNat j2)), .val (.int (Int32.ofNat j3)), .val (.int (Int32.ofNat j4)), .val (.int (Int32.ofNat jq)), .val (.int on1), .val (.int zJ15_0), .val (.int zJ17_0), .unset, .unset, .unset, .unset] []))
                  refine Go.of (fun _ q => XS.iload X18.here hx rfl (hb hby at_239) rfl q) ?_
                  show Go _ _ _ _ _ _ _ (T18.setTop (mkF m 241 #[.val (.int x1), .val (.int x2), .val (.int x3), .val (.int x4), .val (.int x5), .val (.int (Int32.ofNat k1)), .val (.int (Int32.ofNat k2)), .val (.int (Int32.ofNat k3)), .val (.int (Int32.ofNat k4)), .val (.int sp1), .val (.int sp2), .val (.int sp3), .val (.int sp4), .val (.int (Int32.ofNat j1)), .val (.int (Int32.ofNat j2)), .val (.int (Int32.ofNat j3)), .val (.int (Int32.ofNat j4)), .val (.int (Int32.ofNat jq)), .val (.int on1), .val (.int zJ15_0), .val (.int zJ17_0), .unset, .unset, .unset, .unset] [(.int sp3)]))
                  refine Go.of (fun _ q => XS.iload X18.here hx rfl (hb hby at_241) rfl q) ?_
                  show Go _ _ _ _ _ _ _ (T18.setTop (mkF m 243 #[.val (.int x1), .val (.int x2), .val (.int x3), .val (.int x4), .val (.int x5), .val (.int (Int32.ofNat k1)), .val (.int (Int32.ofNat k2)), .val (.int (Int32.ofNat k3)), .val (.int (Int32.ofNat k4)), .val (.int sp1), .val (.int sp2), .val (.int sp3), .val (.int sp4), .val (.int (Int32.ofNat j1)), .val (.int (Int32.ofNat j2)), .val (.int (Int32.ofNat j3)), .val (.int (Int32.ofNat j4)), .val (.int (Int32.ofNat jq)), .val (.int on1), .val (.int zJ15_0), .val (.int zJ17_0), .unset, .unset, .unset, .unset] [(.int sp4), (.int sp3)]))
                  by_cases c243 : sp3 = sp4
                  · refine Go.of (fun _ q => XS.icmpYes X18.here hx rfl (pc0 := 243) (pc' := 250) rfl (hb hby at_243) rfl (teq c243).1 (by decide) (by decide) q) ?_
                    show Go _ _ _ _ _ _ _ (T18.setTop (mkF m 250 #[.val (.int x1), .val (.int x2), .val (.int x3), .val (.int x4), .val (.int x5), .val (.int (Int32.ofNat k1)), .val (.int (Int32.ofNat k2)), .val (.int (Int32.ofNat k3)), .val (.int (Int32.ofNat k4)), .val (.int sp1), .val (.int sp2), .val (.int sp3), .val (.int sp4), .val (.int (Int32.ofNat j1)), .val (.int (Int32.ofNat j2)), .val (.int (Int32.ofNat j3)), .val (.int (Int32.ofNat j4)), .val (.int (Int32.ofNat jq)), .val (.int on1), .val (.int zJ15_0), .val (.int zJ17_0), .unset, .unset, .unset, .unset] []))
                    refine Go.of (fun _ q => XS.iconst X18.here hx rfl (hb hby at_250) q) ?_
                    show Go _ _ _ _ _ _ _ (T18.setTop (mkF m 251 #[.val (.int x1), .val (.int x2), .val (.int x3), .val (.int x4), .val (.int x5), .val (.int (Int32.ofNat k1)), .val (.int (Int32.ofNat k2)), .val (.int (Int32.ofNat k3)), .val (.int (Int32.ofNat k4)), .val (.int sp1), .val (.int sp2), .val (.int sp3), .val (.int sp4), .val (.int (Int32.ofNat j1)), .val (.int (Int32.ofNat j2)), .val (.int (Int32.ofNat j3)), .val (.int (Int32.ofNat j4)), .val (.int (Int32.ofNat jq)), .val (.int on1), .val (.int zJ15_0), .val (.int zJ17_0), .unset, .unset, .unset, .unset] [(.int (0 : Int32))]))
                    exact J19 _ (by rw [if_neg c186, if_neg c191, if_neg c198, if_pos c210, if_neg c229, if_pos c236, if_pos c243])
                  · refine Go.of (fun _ q => XS.icmpNo X18.here hx rfl (hb hby at_243) rfl (feq c243).1 q) ?_
                    show Go _ _ _ _ _ _ _ (T18.setTop (mkF m 246 #[.val (.int x1), .val (.int x2), .val (.int x3), .val (.int x4), .val (.int x5), .val (.int (Int32.ofNat k1)), .val (.int (Int32.ofNat k2)), .val (.int (Int32.ofNat k3)), .val (.int (Int32.ofNat k4)), .val (.int sp1), .val (.int sp2), .val (.int sp3), .val (.int sp4), .val (.int (Int32.ofNat j1)), .val (.int (Int32.ofNat j2)), .val (.int (Int32.ofNat j3)), .val (.int (Int32.ofNat j4)), .val (.int (Int32.ofNat jq)), .val (.int on1), .val (.int zJ15_0), .val (.int zJ17_0), .unset, .unset, .unset, .unset] []))
                    refine Go.of (fun _ q => XS.iconst X18.here hx rfl (hb hby at_246) q) ?_
                    show Go _ _ _ _ _ _ _ (T18.setTop (mkF m 247 #[.val (.int x1), .val (.int x2), .val (.int x3), .val (.int x4), .val (.int x5), .val (.int (Int32.ofNat k1)), .val (.int (Int32.ofNat k2)), .val (.int (Int32.ofNat k3)), .val (.int (Int32.ofNat k4)), .val (.int sp1), .val (.int sp2), .val (.int sp3), .val (.int sp4), .val (.int (Int32.ofNat j1)), .val (.int (Int32.ofNat j2)), .val (.int (Int32.ofNat j3)), .val (.int (Int32.ofNat j4)), .val (.int (Int32.ofNat jq)), .val (.int on1), .val (.int zJ15_0), .val (.int zJ17_0), .unset, .unset, .unset, .unset] [(.int (1 : Int32))]))
                    refine Go.of (fun _ q => XS.goto X18.here hx rfl (pc0 := 247) (pc' := 251) rfl (hb hby at_247) (by decide) (by decide) q) ?_
                    show Go _ _ _ _ _ _ _ (T18.setTop (mkF m 251 #[.val (.int x1), .val (.int x2), .val (.int x3), .val (.int x4), .val (.int x5), .val (.int (Int32.ofNat k1)), .val (.int (Int32.ofNat k2)), .val (.int (Int32.ofNat k3)), .val (.int (Int32.ofNat k4)), .val (.int sp1), .val (.int sp2), .val (.int sp3), .val (.int sp4), .val (.int (Int32.ofNat j1)), .val (.int (Int32.ofNat j2)), .val (.int (Int32.ofNat j3)), .val (.int (Int32.ofNat j4)), .val (.int (Int32.ofNat jq)), .val (.int on1), .val (.int zJ15_0), .val (.int zJ17_0), .unset, .unset, .unset, .unset] [(.int (1 : Int32))]))
                    exact J19 _ (by rw [if_neg c186, if_neg c191, if_neg c198, if_pos c210, if_neg c229, if_pos c236, if_neg c243])
                · refine Go.of (fun _ q => XS.icmpYes X18.here hx rfl (pc0 := 236) (pc' := 246) rfl (hb hby at_236) rfl (feq c236).2 (by decide) (by decide) q) ?_
                  show Go _ _ _ _ _ _ _ (T18.setTop (mkF m 246 #[.val (.int x1), .val (.int x2), .val (.int x3), .val (.int x4), .val (.int x5), .val (.int (Int32.ofNat k1)), .val (.int (Int32.ofNat k2)), .val (.int (Int32.ofNat k3)), .val (.int (Int32.ofNat k4)), .val (.int sp1), .val (.int sp2), .val (.int sp3), .val (.int sp4), .val (.int (Int32.ofNat j1)), .val (.int (Int32.ofNat j2)), .val (.int (Int32.ofNat j3)), .val (.int (Int32.ofNat j4)), .val (.int (Int32.ofNat jq)), .val (.int on1), .val (.int zJ15_0), .val (.int zJ17_0), .unset, .unset, .unset, .unset] []))
                  refine Go.of (fun _ q => XS.iconst X18.here hx rfl (hb hby at_246) q) ?_
                  show Go _ _ _ _ _ _ _ (T18.setTop (mkF m 247 #[.val (.int x1), .val (.int x2), .val (.int x3), .val (.int x4), .val (.int x5), .val (.int (Int32.ofNat k1)), .val (.int (Int32.ofNat k2)), .val (.int (Int32.ofNat k3)), .val (.int (Int32.ofNat k4)), .val (.int sp1), .val (.int sp2), .val (.int sp3), .val (.int sp4), .val (.int (Int32.ofNat j1)), .val (.int (Int32.ofNat j2)), .val (.int (Int32.ofNat j3)), .val (.int (Int32.ofNat j4)), .val (.int (Int32.ofNat jq)), .val (.int on1), .val (.int zJ15_0), .val (.int zJ17_0), .unset, .unset, .unset, .unset] [(.int (1 : Int32))]))
                  refine Go.of (fun _ q => XS.goto X18.here hx rfl (pc0 := 247) (pc' := 251) rfl (hb hby at_247) (by decide) (by decide) q) ?_
                  show Go _ _ _ _ _ _ _ (T18.setTop (mkF m 251 #[.val (.int x1), .val (.int x2), .val (.int x3), .val (.int x4), .val (.int x5), .val (.int (Int32.ofNat k1)), .val (.int (Int32.ofNat k2)), .val (.int (Int32.ofNat k3)), .val (.int (Int32.ofNat k4)), .val (.int sp1), .val (.int sp2), .val (.int sp3), .val (.int sp4), .val (.int (Int32.ofNat j1)), .val (.int (Int32.ofNat j2)), .val (.int (Int32.ofNat j3)), .val (.int (Int32.ofNat j4)), .val (.int (Int32.ofNat jq)), .val (.int on1), .val (.int zJ15_0), .val (.int zJ17_0), .unset, .unset, .unset, .unset] [(.int (1 : Int32))]))
                  exact J19 _ (by rw [if_neg c186, if_neg c191, if_neg c198, if_pos c210, if_neg c229, if_neg c236])
            · refine Go.of (fun _ q => XS.ifNo X18.here hx rfl (hb hby at_210) rfl ((if0 _ _).trans (feq c210).1) q) ?_
              show Go _ _ _ _ _ _ _ (T18.setTop (mkF m 213 #[.val (.int x1), .val (.int x2), .val (.int x3), .val (.int x4), .val (.int x5), .val (.int (Int32.ofNat k1)), .val (.int (Int32.ofNat k2)), .val (.int (Int32.ofNat k3)), .val (.int (Int32.ofNat k4)), .val (.int sp1), .val (.int sp2), .val (.int sp3), .val (.int sp4), .val (.int (Int32.ofNat j1)), .val (.int (Int32.ofNat j2)), .val (.int (Int32.ofNat j3)), .val (.int (Int32.ofNat j4)), .val (.int (Int32.ofNat jq)), .val (.int on1), .val (.int zJ15_0), .val (.int zJ17_0), .unset, .unset, .unset, .unset] []))
              refine Go.of (fun _ q => XS.iload X18.here hx rfl (hb hby at_213) rfl q) ?_
              show Go _ _ _ _ _ _ _ (T18.setTop (mkF m 215 #[.val (.int x1), .val (.int x2), .val (.int x3), .val (.int x4), .val (.int x5), .val (.int (Int32.ofNat k1)), .val (.int (Int32.ofNat k2)), .val (.int (Int32.ofNat k3)), .val (.int (Int32.ofNat k4)), .val (.int sp1), .val (.int sp2), .val (.int sp3), .val (.int sp4), .val (.int (Int32.ofNat j1)), .val (.int (Int32.ofNat j2)), .val (.int (Int32.ofNat j3)), .val (.int (Int32.ofNat j4)), .val (.int (Int32.ofNat jq)), .val (.int on1), .val (.int zJ15_0), .val (.int zJ17_0), .unset, .unset, .unset, .unset] [(.int (Int32.ofNat k2))]))
              refine Go.of (fun _ q => XS.iload X18.here hx rfl (hb hby at_215) rfl q) ?_
              show Go _ _ _ _ _ _ _ (T18.setTop (mkF m 217 #[.val (.int x1), .val (.int x2), .val (.int x3), .val (.int x4), .val (.int x5), .val (.int (Int32.ofNat k1)), .val (.int (Int32.ofNat k2)), .val (.int (Int32.ofNat k3)), .val (.int (Int32.ofNat k4)), .val (.int sp1), .val (.int sp2), .val (.int sp3), .val (.int sp4), .val (.int (Int32.ofNat j1)), .val (.int (Int32.ofNat j2)), .val (.int (Int32.ofNat j3)), .val (.int (Int32.ofNat j4)), .val (.int (Int32.ofNat jq)), .val (.int on1), .val (.int zJ15_0), .val (.int zJ17_0), .unset, .unset, .unset, .unset] [(.int (Int32.ofNat k4)), (.int (Int32.ofNat k2))]))
              by_cases c217 : (Int32.ofNat k2) = (Int32.ofNat k4)
              · refine Go.of (fun _ q => XS.icmpNo X18.here hx rfl (hb hby at_217) rfl (teq c217).2 q) ?_
                show Go _ _ _ _ _ _ _ (T18.setTop (mkF m 220 #[.val (.int x1), .val (.int x2), .val (.int x3), .val (.int x4), .val (.int x5), .val (.int (Int32.ofNat k1)), .val (.int (Int32.ofNat k2)), .val (.int (Int32.ofNat k3)), .val (.int (Int32.ofNat k4)), .val (.int sp1), .val (.int sp2), .val (.int sp3), .val (.int sp4), .val (.int (Int32.ofNat j1)), .val (.int (Int32.ofNat j2)), .val (.int (Int32.ofNat j3)), .val (.int (Int32.ofNat j4)), .val (.int (Int32.ofNat jq)), .val (.int on1), .val (.int zJ15_0), .val (.int zJ17_0), .unset, .unset, .unset, .unset] []))
                refine Go.of (fun _ q => XS.iload X18.here hx rfl (hb hby at_220) rfl q) ?_
                show Go _ _ _ _ _ _ _ (T18.setTop (mkF m 222 #[.val (.int x1), .val (.int x2), .val (.int x3), .val (.int x4), .val (.int x5), .val (.int (Int32.ofNat k1)), .val (.int (Int32.ofNat k2)), .val (.int (Int32.ofNat k3)), .val (.int (Int32.ofNat k4)), .val (.int sp1), .val (.int sp2), .val (.int sp3), .val (.int sp4), .val (.int (Int32.ofNat j1)), .val (.int (Int32.ofNat j2)), .val (.int (Int32.ofNat j3)), .val (.int (Int32.ofNat j4)), .val (.int (Int32.ofNat jq)), .val (.int on1), .val (.int zJ15_0), .val (.int zJ17_0), .unset, .unset, .unset, .unset] [(.int sp2)]))
                refine Go.of (fun _ q => XS.iload X18.here hx rfl (hb hby at_222) rfl q) ?_
                show Go _ _ _ _ _ _ _ (T18.setTop (mkF m 224 #[.val (.int x1), .val (.int x2), .val (.int x3), .val (.int x4), .val (.int x5), .val (.int (Int32.ofNat k1)), .val (.int (Int32.ofNat k2)), .val (.int (Int32.ofNat k3)), .val (.int (Int32.ofNat k4)), .val (.int sp1), .val (.int sp2), .val (.int sp3), .val (.int sp4), .val (.int (Int32.ofNat j1)), .val (.int (Int32.ofNat j2)), .val (.int (Int32.ofNat j3)), .val (.int (Int32.ofNat j4)), .val (.int (Int32.ofNat jq)), .val (.int on1), .val (.int zJ15_0), .val (.int zJ17_0), .unset, .unset, .unset, .unset] [(.int sp4), (.int sp2)]))
                by_cases c224 : sp2 = sp4
                · refine Go.of (fun _ q => XS.icmpYes X18.here hx rfl (pc0 := 224) (pc' := 250) rfl (hb hby at_224) rfl (teq c224).1 (by decide) (by decide) q) ?_
                  show Go _ _ _ _ _ _ _ (T18.setTop (mkF m 250 #[.val (.int x1), .val (.int x2), .val (.int x3), .val (.int x4), .val (.int x5), .val (.int (Int32.ofNat k1)), .val (.int (Int32.ofNat k2)), .val (.int (Int32.ofNat k3)), .val (.int (Int32.ofNat k4)), .val (.int sp1), .val (.int sp2), .val (.int sp3), .val (.int sp4), .val (.int (Int32.ofNat j1)), .val (.int (Int32.ofNat j2)), .val (.int (Int32.ofNat j3)), .val (.int (Int32.ofNat j4)), .val (.int (Int32.ofNat jq)), .val (.int on1), .val (.int zJ15_0), .val (.int zJ17_0), .unset, .unset, .unset, .unset] []))
                  refine Go.of (fun _ q => XS.iconst X18.here hx rfl (hb hby at_250) q) ?_
                  show Go _ _ _ _ _ _ _ (T18.setTop (mkF m 251 #[.val (.int x1), .val (.int x2), .val (.int x3), .val (.int x4), .val (.int x5), .val (.int (Int32.ofNat k1)), .val (.int (Int32.ofNat k2)), .val (.int (Int32.ofNat k3)), .val (.int (Int32.ofNat k4)), .val (.int sp1), .val (.int sp2), .val (.int sp3), .val (.int sp4), .val (.int (Int32.ofNat j1)), .val (.int (Int32.ofNat j2)), .val (.int (Int32.ofNat j3)), .val (.int (Int32.ofNat j4)), .val (.int (Int32.ofNat jq)), .val (.int on1), .val (.int zJ15_0), .val (.int zJ17_0), .unset, .unset, .unset, .unset] [(.int (0 : Int32))]))
                  exact J19 _ (by rw [if_neg c186, if_neg c191, if_neg c198, if_neg c210, if_pos c217, if_pos c224])
                · refine Go.of (fun _ q => XS.icmpNo X18.here hx rfl (hb hby at_224) rfl (feq c224).1 q) ?_
                  show Go _ _ _ _ _ _ _ (T18.setTop (mkF m 227 #[.val (.int x1), .val (.int x2), .val (.int x3), .val (.int x4), .val (.int x5), .val (.int (Int32.ofNat k1)), .val (.int (Int32.ofNat k2)), .val (.int (Int32.ofNat k3)), .val (.int (Int32.ofNat k4)), .val (.int sp1), .val (.int sp2), .val (.int sp3), .val (.int sp4), .val (.int (Int32.ofNat j1)), .val (.int (Int32.ofNat j2)), .val (.int (Int32.ofNat j3)), .val (.int (Int32.ofNat j4)), .val (.int (Int32.ofNat jq)), .val (.int on1), .val (.int zJ15_0), .val (.int zJ17_0), .unset, .unset, .unset, .unset] []))
                  refine Go.of (fun _ q => XS.iload X18.here hx rfl (hb hby at_227) rfl q) ?_
                  show Go _ _ _ _ _ _ _ (T18.setTop (mkF m 229 #[.val (.int x1), .val (.int x2), .val (.int x3), .val (.int x4), .val (.int x5), .val (.int (Int32.ofNat k1)), .val (.int (Int32.ofNat k2)), .val (.int (Int32.ofNat k3)), .val (.int (Int32.ofNat k4)), .val (.int sp1), .val (.int sp2), .val (.int sp3), .val (.int sp4), .val (.int (Int32.ofNat j1)), .val (.int (Int32.ofNat j2)), .val (.int (Int32.ofNat j3)), .val (.int (Int32.ofNat j4)), .val (.int (Int32.ofNat jq)), .val (.int on1), .val (.int zJ15_0), .val (.int zJ17_0), .unset, .unset, .unset, .unset] [(.int zJ17_0)]))
                  by_cases c229 : zJ17_0 = (0 : Int32)
                  · refine Go.of (fun _ q => XS.ifYes X18.here hx rfl (pc0 := 229) (pc' := 246) rfl (hb hby at_229) rfl ((if0 _ _).trans (teq c229).1) (by decide) (by decide) q) ?_
                    show Go _ _ _ _ _ _ _ (T18.setTop (mkF m 246 #[.val (.int x1), .val (.int x2), .val (.int x3), .val (.int x4), .val (.int x5), .val (.int (Int32.ofNat k1)), .val (.int (Int32.ofNat k2)), .val (.int (Int32.ofNat k3)), .val (.int (Int32.ofNat k4)), .val (.int sp1), .val (.int sp2), .val (.int sp3), .val (.int sp4), .val (.int (Int32.ofNat j1)), .val (.int (Int32.ofNat j2)), .val (.int (Int32.ofNat j3)), .val (.int (Int32.ofNat j4)), .val (.int (Int32.ofNat jq)), .val (.int on1), .val (.int zJ15_0), .val (.int zJ17_0), .unset, .unset, .unset, .unset] []))
                    refine Go.of (fun _ q => XS.iconst X18.here hx rfl (hb hby at_246) q) ?_
                    show Go _ _ _ _ _ _ _ (T18.setTop (mkF m 247 #[.val (.int x1), .val (.int x2), .val (.int x3), .val (.int x4), .val (.int x5), .val (.int (Int32.ofNat k1)), .val (.int (Int32.ofNat k2)), .val (.int (Int32.ofNat k3)), .val (.int (Int32.ofNat k4)), .val (.int sp1), .val (.int sp2), .val (.int sp3), .val (.int sp4), .val (.int (Int32.ofNat j1)), .val (.int (Int32.ofNat j2)), .val (.int (Int32.ofNat j3)), .val (.int (Int32.ofNat j4)), .val (.int (Int32.ofNat jq)), .val (.int on1), .val (.int zJ15_0), .val (.int zJ17_0), .unset, .unset, .unset, .unset] [(.int (1 : Int32))]))
                    refine Go.of (fun _ q => XS.goto X18.here hx rfl (pc0 := 247) (pc' := 251) rfl (hb hby at_247) (by decide) (by decide) q) ?_
                    show Go _ _ _ _ _ _ _ (T18.setTop (mkF m 251 #[.val (.int x1), .val (.int x2), .val (.int x3), .val (.int x4), .val (.int x5), .val (.int (Int32.ofNat k1)), .val (.int (Int32.ofNat k2)), .val (.int (Int32.ofNat k3)), .val (.int (Int32.ofNat k4)), .val (.int sp1), .val (.int sp2), .val (.int sp3), .val (.int sp4), .val (.int (Int32.ofNat j1)), .val (.int (Int32.ofNat j2)), .val (.int (Int32.ofNat j3)), .val (.int (Int32.ofNat j4)), .val (.int (Int32.ofNat jq)), .val (.int on1), .val (.int zJ15_0), .val (.int zJ17_0), .unset, .unset, .unset, .unset] [(.int (1 : Int32))]))
                    exact J19 _ (by rw [if_neg c186, if_neg c191, if_neg c198, if_neg c210, if_pos c217, if_neg c224, if_pos c229])
                  · refine Go.of (fun _ q => XS.ifNo X18.here hx rfl (hb hby at_229) rfl ((if0 _ _).trans (feq c229).1) q) ?_
                    show Go _ _ _ _ _ _ _ (T18.setTop (mkF m 232 #[.val (.int x1), .val (.int x2), .val (.int x3), .val (.int x4), .val (.int x5), .val (.int (Int32.ofNat k1)), .val (.int (Int32.ofNat k2)), .val (.int (Int32.ofNat k3)), .val (.int (Int32.ofNat k4)), .val (.int sp1), .val (.int sp2), .val (.int sp3), .val (.int sp4), .val (.int (Int32.ofNat j1)), .val (.int (Int32.ofNat j2)), .val (.int (Int32.ofNat j3)), .val (.int (Int32.ofNat j4)), .val (.int (Int32.ofNat jq)), .val (.int on1), .val (.int zJ15_0), .val (.int zJ17_0), .unset, .unset, .unset, .unset] []))
                    refine Go.of (fun _ q => XS.iload X18.here hx rfl (hb hby at_232) rfl q) ?_
                    show Go _ _ _ _ _ _ _ (T18.setTop (mkF m 234 #[.val (.int x1), .val (.int x2), .val (.int x3), .val (.int x4), .val (.int x5), .val (.int (Int32.ofNat k1)), .val (.int (Int32.ofNat k2)), .val (.int (Int32.ofNat k3)), .val (.int (Int32.ofNat k4)), .val (.int sp1), .val (.int sp2), .val (.int sp3), .val (.int sp4), .val (.int (Int32.ofNat j1)), .val (.int (Int32.ofNat j2)), .val (.int (Int32.ofNat j3)), .val (.int (Int32.ofNat j4)), .val (.int (Int32.ofNat jq)), .val (.int on1), .val (.int zJ15_0), .val (.int zJ17_0), .unset, .unset, .unset, .unset] [(.int (Int32.ofNat k3))]))
                    refine Go.of (fun _ q => XS.iload X18.here hx rfl (hb hby at_234) rfl q) ?_
                    show Go _ _ _ _ _ _ _ (T18.setTop (mkF m 236 #[.val (.int x1), .val (.int x2), .val (.int x3), .val (.int x4), .val (.int x5), .val (.int (Int32.ofNat k1)), .val (.int (Int32.ofNat k2)), .val (.int (Int32.ofNat k3)), .val (.int (Int32.ofNat k4)), .val (.int sp1), .val (.int sp2), .val (.int sp3), .val (.int sp4), .val (.int (Int32.ofNat j1)), .val (.int (Int32.ofNat j2)), .val (.int (Int32.ofNat j3)), .val (.int (Int32.ofNat j4)), .val (.int (Int32.ofNat jq)), .val (.int on1), .val (.int zJ15_0), .val (.int zJ17_0), .unset, .unset, .unset, .unset] [(.int (Int32.ofNat k4)), (.int (Int32.ofNat k3))]))
                    by_cases c236 : (Int32.ofNat k3) = (Int32.ofNat k4)
                    · refine Go.of (fun _ q => XS.icmpNo X18.here hx rfl (hb hby at_236) rfl (teq c236).2 q) ?_
                      show Go _ _ _ _ _ _ _ (T18.setTop (mkF m 239 #[.val (.int x1), .val (.int x2), .val (.int x3), .val (.int x4), .val (.int x5), .val (.int (Int32.ofNat k1)), .val (.int (Int32.ofNat k2)), .val (.int (Int32.ofNat k3)), .val (.int (Int32.ofNat k4)), .val (.int sp1), .val (.int sp2), .val (.int sp3), .val (.int sp4), .val (.int (Int32.ofNat j1)), .val (.int (Int32.ofNat j2)), .val (.int (Int32.ofNat j3)), .val (.int (Int32.ofNat j4)), .val (.int (Int32.ofNat jq)), .val (.int on1), .val (.int zJ15_0), .val (.int zJ17_0), .unset, .unset, .unset, .unset] []))
                      refine Go.of (fun _ q => XS.iload X18.here hx rfl (hb hby at_239) rfl q) ?_
                      show Go _ _ _ _ _ _ _ (T18.setTop (mkF m 241 #[.val (.int x1), .val (.int x2), .val (.int x3), .val (.int x4), .val (.int x5), .val (.int (Int32.ofNat k1)), .val (.int (Int32.ofNat k2)), .val (.int (Int32.ofNat k3)), .val (.int (Int32.ofNat k4)), .val (.int sp1), .val (.int sp2), .val (.int sp3), .val (.int sp4), .val (.int (Int32.ofNat j1)), .val (.int (Int32.ofNat j2)), .val (.int (Int32.ofNat j3)), .val (.int (Int32.ofNat j4)), .val (.int (Int32.ofNat jq)), .val (.int on1), .val (.int zJ15_0), .val (.int zJ17_0), .unset, .unset, .unset, .unset] [(.int sp3)]))
                      refine Go.of (fun _ q => XS.iload X18.here hx rfl (hb hby at_241) rfl q) ?_
                      show Go _ _ _ _ _ _ _ (T18.setTop (mkF m 243 #[.val (.int x1), .val (.int x2), .val (.int x3), .val (.int x4), .val (.int x5), .val (.int (Int32.ofNat k1)), .val (.int (Int32.ofNat k2)), .val (.int (Int32.ofNat k3)), .val (.int (Int32.ofNat k4)), .val (.int sp1), .val (.int sp2), .val (.int sp3), .val (.int sp4), .val (.int (Int32.ofNat j1)), .val (.int (Int32.ofNat j2)), .val (.int (Int32.ofNat j3)), .val (.int (Int32.ofNat j4)), .val (.int (Int32.ofNat jq)), .val (.int on1), .val (.int zJ15_0), .val (.int zJ17_0), .unset, .unset, .unset, .unset] [(.int sp4), (.int sp3)]))
                      by_cases c243 : sp3 = sp4
                      · refine Go.of (fun _ q => XS.icmpYes X18.here hx rfl (pc0 := 243) (pc' := 250) rfl (hb hby at_243) rfl (teq c243).1 (by decide) (by decide) q) ?_
                        show Go _ _ _ _ _ _ _ (T18.setTop (mkF m 250 #[.val (.int x1), .val (.int x2), .val (.int x3), .val (.int x4), .val (.int x5), .val (.int (Int32.ofNat k1)), .val (.int (Int32.ofNat k2)), .val (.int (Int32.ofNat k3)), .val (.int (Int32.ofNat k4)), .val (.int sp1), .val (.int sp2), .val (.int sp3), .val (.int sp4), .val (.int (Int32.ofNat j1)), .val (.int (Int32.ofNat j2)), .val (.int (Int32.ofNat j3)), .val (.int (Int32.ofNat j4)), .val (.int (Int32.ofNat jq)), .val (.int on1), .val (.int zJ15_0), .val (.int zJ17_0), .unset, .unset, .unset, .unset] []))
                        refine Go.of (fun _ q => XS.iconst X18.here hx rfl (hb hby at_250) q) ?_
                        show Go _ _ _ _ _ _ _ (T18.setTop (mkF m 251 #[.val (.int x1), .val (.int x2), .val (.int x3), .val (.int x4), .val (.int x5), .val (.int (Int32.ofNat k1)), .val (.int (Int32.ofNat k2)), .val (.int (Int32.ofNat k3)), .val (.int (Int32.ofNat k4)), .val (.int sp1), .val (.int sp2), .val (.int sp3), .val (.int sp4), .val (.int (Int32.ofNat j1)), .val (.int (Int32.ofNat j2)), .val (.int (Int32.ofNat j3)), .val (.int (Int32.ofNat j4)), .val (.int (Int32.ofNat jq)), .val (.int on1), .val (.int zJ15_0), .val (.int zJ17_0), .unset, .unset, .unset, .unset] [(.int (0 : Int32))]))
                        exact J19 _ (by rw [if_neg c186, if_neg c191, if_neg c198, if_neg c210, if_pos c217, if_neg c224, if_neg c229, if_pos c236, if_pos c243])
                      · refine Go.of (fun _ q => XS.icmpNo X18.here hx rfl (hb hby at_243) rfl (feq c243).1 q) ?_
                        show Go _ _ _ _ _ _ _ (T18.setTop (mkF m 246 #[.val (.int x1), .val (.int x2), .val (.int x3), .val (.int x4), .val (.int x5), .val (.int (Int32.ofNat k1)), .val (.int (Int32.ofNat k2)), .val (.int (Int32.ofNat k3)), .val (.int (Int32.ofNat k4)), .val (.int sp1), .val (.int sp2), .val (.int sp3), .val (.int sp4), .val (.int (Int32.ofNat j1)), .val (.int (Int32.ofNat j2)), .val (.int (Int32.ofNat j3)), .val (.int (Int32.ofNat j4)), .val (.int (Int32.ofNat jq)), .val (.int on1), .val (.int zJ15_0), .val (.int zJ17_0), .unset, .unset, .unset, .unset] []))
                        refine Go.of (fun _ q => XS.iconst X18.here hx rfl (hb hby at_246) q) ?_
                        show Go _ _ _ _ _ _ _ (T18.setTop (mkF m 247 #[.val (.int x1), .val (.int x2), .val (.int x3), .val (.int x4), .val (.int x5), .val (.int (Int32.ofNat k1)), .val (.int (Int32.ofNat k2)), .val (.int (Int32.ofNat k3)), .val (.int (Int32.ofNat k4)), .val (.int sp1), .val (.int sp2), .val (.int sp3), .val (.int sp4), .val (.int (Int32.ofNat j1)), .val (.int (Int32.ofNat j2)), .val (.int (Int32.ofNat j3)), .val (.int (Int32.ofNat j4)), .val (.int (Int32.ofNat jq)), .val (.int on1), .val (.int zJ15_0), .val (.int zJ17_0), .unset, .unset, .unset, .unset] [(.int (1 : Int32))]))
                        refine Go.of (fun _ q => XS.goto X18.here hx rfl (pc0 := 247) (pc' := 251) rfl (hb hby at_247) (by decide) (by decide) q) ?_
                        show Go _ _ _ _ _ _ _ (T18.setTop (mkF m 251 #[.val (.int x1), .val (.int x2), .val (.int x3), .val (.int x4), .val (.int x5), .val (.int (Int32.ofNat k1)), .val (.int (Int32.ofNat k2)), .val (.int (Int32.ofNat k3)), .val (.int (Int32.ofNat k4)), .val (.int sp1), .val (.int sp2), .val (.int sp3), .val (.int sp4), .val (.int (Int32.ofNat j1)), .val (.int (Int32.ofNat j2)), .val (.int (Int32.ofNat j3)), .val (.int (Int32.ofNat j4)), .val (.int (Int32.ofNat jq)), .val (.int on1), .val (.int zJ15_0), .val (.int zJ17_0), .unset, .unset, .unset, .unset] [(.int (1 : Int32))]))
                        exact J19 _ (by rw [if_neg c186, if_neg c191, if_neg c198, if_neg c210, if_pos c217, if_neg c224, if_neg c229, if_pos c236, if_neg c243])
                    · refine Go.of (fun _ q => XS.icmpYes X18.here hx rfl (pc0 := 236) (pc' := 246) rfl (hb hby at_236) rfl (feq c236).2 (by decide) (by decide) q) ?_
                      show Go _ _ _ _ _ _ _ (T18.setTop (mkF m 246 #[.val (.int x1), .val (.int x2), .val (.int x3), .val (.int x4), .val (.int x5), .val (.int (Int32.ofNat k1)), .val (.int (Int32.ofNat k2)), .val (.int (Int32.ofNat k3)), .val (.int (Int32.ofNat k4)), .val (.int sp1), .val (.int sp2), .val (.int sp3), .val (.int sp4), .val (.int (Int32.ofNat j1)), .val (.int (Int32.ofNat j2)), .val (.int (Int32.ofNat j3)), .val (.int (Int32.ofNat j4)), .val (.int (Int32.ofNat jq)), .val (.int on1), .val (.int zJ15_0), .val (.int zJ17_0), .unset, .unset, .unset, .unset] []))
                      refine Go.of (fun _ q => XS.iconst X18.here hx rfl (hb hby at_246) q) ?_
                      show Go _ _ _ _ _ _ _ (T18.setTop (mkF m 247 #[.val (.int x1), .val (.int x2), .val (.int x3), .val (.int x4), .val (.int x5), .val (.int (Int32.ofNat k1)), .val (.int (Int32.ofNat k2)), .val (.int (Int32.ofNat k3)), .val (.int (Int32.ofNat k4)), .val (.int sp1), .val (.int sp2), .val (.int sp3), .val (.int sp4), .val (.int (Int32.ofNat j1)), .val (.int (Int32.ofNat j2)), .val (.int (Int32.ofNat j3)), .val (.int (Int32.ofNat j4)), .val (.int (Int32.ofNat jq)), .val (.int on1), .val (.int zJ15_0), .val (.int zJ17_0), .unset, .unset, .unset, .unset] [(.int (1 : Int32))]))
                      refine Go.of (fun _ q => XS.goto X18.here hx rfl (pc0 := 247) (pc' := 251) rfl (hb hby at_247) (by decide) (by decide) q) ?_
                      show Go _ _ _ _ _ _ _ (T18.setTop (mkF m 251 #[.val (.int x1), .val (.int x2), .val (.int x3), .val (.int x4), .val (.int x5), .val (.int (Int32.ofNat k1)), .val (.int (Int32.ofNat k2)), .val (.int (Int32.ofNat k3)), .val (.int (Int32.ofNat k4)), .val (.int sp1), .val (.int sp2), .val (.int sp3), .val (.int sp4), .val (.int (Int32.ofNat j1)), .val (.int (Int32.ofNat j2)), .val (.int (Int32.ofNat j3)), .val (.int (Int32.ofNat j4)), .val (.int (Int32.ofNat jq)), .val (.int on1), .val (.int zJ15_0), .val (.int zJ17_0), .unset, .unset, .unset, .unset] [(.int (1 : Int32))]))
                      exact J19 _ (by rw [if_neg c186, if_neg c191, if_neg c198, if_neg c210, if_pos c217, if_neg c224, if_neg c229, if_neg c236])
              · refine Go.of (fun _ q => XS.icmpYes X18.here hx rfl (pc0 := 217) (pc' := 227) rfl (hb hby at_217) rfl (feq c217).2 (by decide) (by decide) q) ?_
                show Go _ _ _ _ _ _ _ (T18.setTop (mkF m 227 #[.val (.int x1), .val (.int x2), .val (.int x3), .val (.int x4), .val (.int x5), .val (.int (Int32.ofNat k1)), .val (.int (Int32.ofNat k2)), .val (.int (Int32.ofNat k3)), .val (.int (Int32.ofNat k4)), .val (.int sp1), .val (.int sp2), .val (.int sp3), .val (.int sp4), .val (.int (Int32.ofNat j1)), .val (.int (Int32.ofNat j2)), .val (.int (Int32.ofNat j3)), .val (.int (Int32.ofNat j4)), .val (.int (Int32.ofNat jq)), .val (.int on1), .val (.int zJ15_0), .val (.int zJ17_0), .unset, .unset, .unset, .unset] []))
                refine Go.of (fun _ q => XS.iload X18.here hx rfl (hb hby at_227) rfl q) ?_
                show Go _ _ _ _ _ _ _ (T18.setTop (mkF m 229 #[.val (.int x1), .val (.int x2), .val (.int x3), .val (.int x4), .val (.int x5), .val (.int (Int32.ofNat k1)), .val (.int (Int32.ofNat k2)), .val (.int (Int32.ofNat k3)), .val (.int (Int32.ofNat k4)), .val (.int sp1), .val (.int sp2), .val (.int sp3), .val (.int sp4), .val (.int (Int32.ofNat j1)), .val (.int (Int32.ofNat j2)), .val (.int (Int32.ofNat j3)), .val (.int (Int32.ofNat j4)), .val (.int (Int32.ofNat jq)), .val (.int on1), .val (.int zJ15_0), .val (.int zJ17_0), .unset, .unset, .unset, .unset] [(.int zJ17_0)]))
                by_cases c229 : zJ17_0 = (0 : Int32)
                · refine Go.of (fun _ q => XS.ifYes X18.here hx rfl (pc0 := 229) (pc' := 246) rfl (hb hby at_229) rfl ((if0 _ _).trans (teq c229).1) (by decide) (by decide) q) ?_
                  show Go _ _ _ _ _ _ _ (T18.setTop (mkF m 246 #[.val (.int x1), .val (.int x2), .val (.int x3), .val (.int x4), .val (.int x5), .val (.int (Int32.ofNat k1)), .val (.int (Int32.ofNat k2)), .val (.int (Int32.ofNat k3)), .val (.int (Int32.ofNat k4)), .val (.int sp1), .val (.int sp2), .val (.int sp3), .val (.int sp4), .val (.int (Int32.ofNat j1)), .val (.int (Int32.ofNat j2)), .val (.int (Int32.ofNat j3)), .val (.int (Int32.ofNat j4)), .val (.int (Int32.ofNat jq)), .val (.int on1), .val (.int zJ15_0), .val (.int zJ17_0), .unset, .unset, .unset, .unset] []))
                  refine Go.of (fun _ q => XS.iconst X18.here hx rfl (hb hby at_246) q) ?_
                  show Go _ _ _ _ _ _ _ (T18.setTop (mkF m 247 #[.val (.int x1), .val (.int x2), .val (.int x3), .val (.int x4), .val (.int x5), .val (.int (Int32.ofNat k1)), .val (.int (Int32.ofNat k2)), .val (.int (Int32.ofNat k3)), .val (.int (Int32.ofNat k4)), .val (.int sp1), .val (.int sp2), .val (.int sp3), .val (.int sp4), .val (.int (Int32.ofNat j1)), .val (.int (Int32.ofNat j2)), .val (.int (Int32.ofNat j3)), .val (.int (Int32.ofNat j4)), .val (.int (Int32.ofNat jq)), .val (.int on1), .val (.int zJ15_0), .val (.int zJ17_0), .unset, .unset, .unset, .unset] [(.int (1 : Int32))]))
                  refine Go.of (fun _ q => XS.goto X18.here hx rfl (pc0 := 247) (pc' := 251) rfl (hb hby at_247) (by decide) (by decide) q) ?_
                  show Go _ _ _ _ _ _ _ (T18.setTop (mkF m 251 #[.val (.int x1), .val (.int x2), .val (.int x3), .val (.int x4), .val (.int x5), .val (.int (Int32.ofNat k1)), .val (.int (Int32.ofNat k2)), .val (.int (Int32.ofNat k3)), .val (.int (Int32.ofNat k4)), .val (.int sp1), .val (.int sp2), .val (.int sp3), .val (.int sp4), .val (.int (Int32.ofNat j1)), .val (.int (Int32.ofNat j2)), .val (.int (Int32.ofNat j3)), .val (.int (Int32.ofNat j4)), .val (.int (Int32.ofNat jq)), .val (.int on1), .val (.int zJ15_0), .val (.int zJ17_0), .unset, .unset, .unset, .unset] [(.int (1 : Int32))]))
                  exact J19 _ (by rw [if_neg c186, if_neg c191, if_neg c198, if_neg c210, if_neg c217, if_pos c229])
                · refine Go.of (fun _ q => XS.ifNo X18.here hx rfl (hb hby at_229) rfl ((if0 _ _).trans (feq c229).1) q) ?_
                  show Go _ _ _ _ _ _ _ (T18.setTop (mkF m 232 #[.val (.int x1), .val (.int x2), .val (.int x3), .val (.int x4), .val (.int x5), .val (.int (Int32.ofNat k1)), .val (.int (Int32.ofNat k2)), .val (.int (Int32.ofNat k3)), .val (.int (Int32.ofNat k4)), .val (.int sp1), .val (.int sp2), .val (.int sp3), .val (.int sp4), .val (.int (Int32.ofNat j1)), .val (.int (Int32.ofNat j2)), .val (.int (Int32.ofNat j3)), .val (.int (Int32.ofNat j4)), .val (.int (Int32.ofNat jq)), .val (.int on1), .val (.int zJ15_0), .val (.int zJ17_0), .unset, .unset, .unset, .unset] []))
                  refine Go.of (fun _ q => XS.iload X18.here hx rfl (hb hby at_232) rfl q) ?_
                  show Go _ _ _ _ _ _ _ (T18.setTop (mkF m 234 #[.val (.int x1), .val (.int x2), .val (.int x3), .val (.int x4), .val (.int x5), .val (.int (Int32.ofNat k1)), .val (.int (Int32.ofNat k2)), .val (.int (Int32.ofNat k3)), .val (.int (Int32.ofNat k4)), .val (.int sp1), .val (.int sp2), .val (.int sp3), .val (.int sp4), .val (.int (Int32.ofNat j1)), .val (.int (Int32.ofNat j2)), .val (.int (Int32.ofNat j3)), .val (.int (Int32.ofNat j4)), .val (.int (Int32.ofNat jq)), .val (.int on1), .val (.int zJ15_0), .val (.int zJ17_0), .unset, .unset, .unset, .unset] [(.int (Int32.ofNat k3))]))
                  refine Go.of (fun _ q => XS.iload X18.here hx rfl (hb hby at_234) rfl q) ?_
                  show Go _ _ _ _ _ _ _ (T18.setTop (mkF m 236 #[.val (.int x1), .val (.int x2), .val (.int x3), .val (.int x4), .val (.int x5), .val (.int (Int32.ofNat k1)), .val (.int (Int32.ofNat k2)), .val (.int (Int32.ofNat k3)), .val (.int (Int32.ofNat k4)), .val (.int sp1), .val (.int sp2), .val (.int sp3), .val (.int sp4), .val (.int (Int32.ofNat j1)), .val (.int (Int32.ofNat j2)), .val (.int (Int32.ofNat j3)), .val (.int (Int32.ofNat j4)), .val (.int (Int32.ofNat jq)), .val (.int on1), .val (.int zJ15_0), .val (.int zJ17_0), .unset, .unset, .unset, .unset] [(.int (Int32.ofNat k4)), (.int (Int32.ofNat k3))]))
                  by_cases c236 : (Int32.ofNat k3) = (Int32.ofNat k4)
                  · refine Go.of (fun _ q => XS.icmpNo X18.here hx rfl (hb hby at_236) rfl (teq c236).2 q) ?_
                    show Go _ _ _ _ _ _ _ (T18.setTop (mkF m 239 #[.val (.int x1), .val (.int x2), .val (.int x3), .val (.int x4), .val (.int x5), .val (.int (Int32.ofNat k1)), .val (.int (Int32.ofNat k2)), .val (.int (Int32.ofNat k3)), .val (.int (Int32.ofNat k4)), .val (.int sp1), .val (.int sp2), .val (.int sp3), .val (.int sp4), .val (.int (Int32.ofNat j1)), .val (.int (Int32.ofNat j2)), .val (.int (Int32.ofNat j3)), .val (.int (Int32.ofNat j4)), .val (.int (Int32.ofNat jq)), .val (.int on1), .val (.int zJ15_0), .val (.int zJ17_0), .unset, .unset, .unset, .unset] []))
                    refine Go.of (fun _ q => XS.iload X18.here hx rfl (hb hby at_239) rfl q) ?_
                    show Go _ _ _ _ _ _ _ (T18.setTop (mkF m 241 #[.val (.int x1), .val (.int x2), .val (.int x3), .val (.int x4), .val (.int x5), .val (.int (Int32.ofNat k1)), .val (.int (Int32.ofNat k2)), .val (.int (Int32.ofNat k3)), .val (.int (Int32.ofNat k4)), .val (.int sp1), .val (.int sp2), .val (.int sp3), .val (.int sp4), .val (.int (Int32.ofNat j1)), .val (.int (Int32.ofNat j2)), .val (.int (Int32.ofNat j3)), .val (.int (Int32.ofNat j4)), .val (.int (Int32.ofNat jq)), .val (.int on1), .val (.int zJ15_0), .val (.int zJ17_0), .unset, .unset, .unset, .unset] [(.int sp3)]))
                    refine Go.of (fun _ q => XS.iload X18.here hx rfl (hb hby at_241) rfl q) ?_
                    show Go _ _ _ _ _ _ _ (T18.setTop (mkF m 243 #[.val (.int x1), .val (.int x2), .val (.int x3), .val (.int x4), .val (.int x5), .val (.int (Int32.ofNat k1)), .val (.int (Int32.ofNat k2)), .val (.int (Int32.ofNat k3)), .val (.int (Int32.ofNat k4)), .val (.int sp1), .val (.int sp2), .val (.int sp3), .val (.int sp4), .val (.int (Int32.ofNat j1)), .val (.int (Int32.ofNat j2)), .val (.int (Int32.ofNat j3)), .val (.int (Int32.ofNat j4)), .val (.int (Int32.ofNat jq)), .val (.int on1), .val (.int zJ15_0), .val (.int zJ17_0), .unset, .unset, .unset, .unset] [(.int sp4), (.int sp3)]))
                    by_cases c243 : sp3 = sp4
                    · refine Go.of (fun _ q => XS.icmpYes X18.here hx rfl (pc0 := 243) (pc' := 250) rfl (hb hby at_243) rfl (teq c243).1 (by decide) (by decide) q) ?_
                      show Go _ _ _ _ _ _ _ (T18.setTop (mkF m 250 #[.val (.int x1), .val (.int x2), .val (.int x3), .val (.int x4), .val (.int x5), .val (.int (Int32.ofNat k1)), .val (.int (Int32.ofNat k2)), .val (.int (Int32.ofNat k3)), .val (.int (Int32.ofNat k4)), .val (.int sp1), .val (.int sp2), .val (.int sp3), .val (.int sp4), .val (.int (Int32.ofNat j1)), .val (.int (Int32.ofNat j2)), .val (.int (Int32.ofNat j3)), .val (.int (Int32.ofNat j4)), .val (.int (Int32.ofNat jq)), .val (.int on1), .val (.int zJ15_0), .val (.int zJ17_0), .unset, .unset, .unset, .unset] []))
                      refine Go.of (fun _ q => XS.iconst X18.here hx rfl (hb hby at_250) q) ?_
                      show Go _ _ _ _ _ _ _ (T18.setTop (mkF m 251 #[.val (.int x1), .val (.int x2), .val (.int x3), .val (.int x4), .val (.int x5), .val (.int (Int32.ofNat k1)), .val (.int (Int32.ofNat k2)), .val (.int (Int32.ofNat k3)), .val (.int (Int32.ofNat k4)), .val (.int sp1), .val (.int sp2), .val (.int sp3), .val (.int sp4), .val (.int (Int32.ofNat j1)), .val (.int (Int32.ofNat j2)), .val (.int (Int32.ofNat j3)), .val (.int (Int32.ofNat j4)), .val (.int (Int32.ofNat jq)), .val (.int on1), .val (.int zJ15_0), .val (.int zJ17_0), .unset, .unset, .unset, .unset] [(.int (0 : Int32))]))
                      exact J19 _ (by rw [if_neg c186, if_neg c191, if_neg c198, if_neg c210, if_neg c217, if_neg c229, if_pos c236, if_pos c243])
                    · refine Go.of (fun _ q => XS.icmpNo X18.here hx rfl (hb hby at_243) rfl (feq c243).1 q) ?_
                      show Go _ _ _ _ _ _ _ (T18.setTop (mkF m 246 #[.val (.int x1), .val (.int x2), .val (.int x3), .val (.int x4), .val (.int x5), .val (.int (Int32.ofNat k1)), .val (.int (Int32.ofNat k2)), .val (.int (Int32.ofNat k3)), .val (.int (Int32.ofNat k4)), .val (.int sp1), .val (.int sp2), .val (.int sp3), .val (.int sp4), .val (.int (Int32.ofNat j1)), .val (.int (Int32.ofNat j2)), .val (.int (Int32.ofNat j3)), .val (.int (Int32.ofNat j4)), .val (.int (Int32.ofNat jq)), .val (.int on1), .val (.int zJ15_0), .val (.int zJ17_0), .unset, .unset, .unset, .unset] []))
                      refine Go.of (fun _ q => XS.iconst X18.here hx rfl (hb hby at_246) q) ?_
                      show Go _ _ _ _ _ _ _ (T18.setTop (mkF m 247 #[.val (.int x1), .val (.int x2), .val (.int x3), .val (.int x4), .val (.int x5), .val (.int (Int32.ofNat k1)), .val (.int (Int32.ofNat k2)), .val (.int (Int32.ofNat k3)), .val (.int (Int32.ofNat k4)), .val (.int sp1), .val (.int sp2), .val (.int sp3), .val (.int sp4), .val (.int (Int32.ofNat j1)), .val (.int (Int32.ofNat j2)), .val (.int (Int32.ofNat j3)), .val (.int (Int32.ofNat j4)), .val (.int (Int32.ofNat jq)), .val (.int on1), .val (.int zJ15_0), .val (.int zJ17_0), .unset, .unset, .unset, .unset] [(.int (1 : Int32))]))
                      refine Go.of (fun _ q => XS.goto X18.here hx rfl (pc0 := 247) (pc' := 251) rfl (hb hby at_247) (by decide) (by decide) q) ?_
                      show Go _ _ _ _ _ _ _ (T18.setTop (mkF m 251 #[.val (.int x1), .val (.int x2), .val (.int x3), .val (.int x4), .val (.int x5), .val (.int (Int32.ofNat k1)), .val (.int (Int32.ofNat k2)), .val (.int (Int32.ofNat k3)), .val (.int (Int32.ofNat k4)), .val (.int sp1), .val (.int sp2), .val (.int sp3), .val (.int sp4), .val (.int (Int32.ofNat j1)), .val (.int (Int32.ofNat j2)), .val (.int (Int32.ofNat j3)), .val (.int (Int32.ofNat j4)), .val (.int (Int32.ofNat jq)), .val (.int on1), .val (.int zJ15_0), .val (.int zJ17_0), .unset, .unset, .unset, .unset] [(.int (1 : Int32))]))
                      exact J19 _ (by rw [if_neg c186, if_neg c191, if_neg c198, if_neg c210, if_neg c217, if_neg c229, if_pos c236, if_neg c243])
                  · refine Go.of (fun _ q => XS.icmpYes X18.here hx rfl (pc0 := 236) (pc' := 246) rfl (hb hby at_236) rfl (feq c236).2 (by decide) (by decide) q) ?_
                    show Go _ _ _ _ _ _ _ (T18.setTop (mkF m 246 #[.val (.int x1), .val (.int x2), .val (.int x3), .val (.int x4), .val (.int x5), .val (.int (Int32.ofNat k1)), .val (.int (Int32.ofNat k2)), .val (.int (Int32.ofNat k3)), .val (.int (Int32.ofNat k4)), .val (.int sp1), .val (.int sp2), .val (.int sp3), .val (.int sp4), .val (.int (Int32.ofNat j1)), .val (.int (Int32.ofNat j2)), .val (.int (Int32.ofNat j3)), .val (.int (Int32.ofNat j4)), .val (.int (Int32.ofNat jq)), .val (.int on1), .val (.int zJ15_0), .val (.int zJ17_0), .unset, .unset, .unset, .unset] []))
                    refine Go.of (fun _ q => XS.iconst X18.here hx rfl (hb hby at_246) q) ?_
                    show Go _ _ _ _ _ _ _ (T18.setTop (mkF m 247 #[.val (.int x1), .val (.int x2), .val (.int x3), .val (.int x4), .val (.int x5), .val (.int (Int32.ofNat k1)), .val (.int (Int32.ofNat k2)), .val (.int (Int32.ofNat k3)), .val (.int (Int32.ofNat k4)), .val (.int sp1), .val (.int sp2), .val (.int sp3), .val (.int sp4), .val (.int (Int32.ofNat j1)), .val (.int (Int32.ofNat j2)), .val (.int (Int32.ofNat j3)), .val (.int (Int32.ofNat j4)), .val (.int (Int32.ofNat jq)), .val (.int on1), .val (.int zJ15_0), .val (.int zJ17_0), .unset, .unset, .unset, .unset] [(.int (1 : Int32))]))
                    refine Go.of (fun _ q => XS.goto X18.here hx rfl (pc0 := 247) (pc' := 251) rfl (hb hby at_247) (by decide) (by decide) q) ?_
                    show Go _ _ _ _ _ _ _ (T18.setTop (mkF m 251 #[.val (.int x1), .val (.int x2), .val (.int x3), .val (.int x4), .val (.int x5), .val (.int (Int32.ofNat k1)), .val (.int (Int32.ofNat k2)), .val (.int (Int32.ofNat k3)), .val (.int (Int32.ofNat k4)), .val (.int sp1), .val (.int sp2), .val (.int sp3), .val (.int sp4), .val (.int (Int32.ofNat j1)), .val (.int (Int32.ofNat j2)), .val (.int (Int32.ofNat j3)), .val (.int (Int32.ofNat j4)), .val (.int (Int32.ofNat jq)), .val (.int on1), .val (.int zJ15_0), .val (.int zJ17_0), .unset, .unset, .unset, .unset] [(.int (1 : Int32))]))
                    exact J19 _ (by rw [if_neg c186, if_neg c191, if_neg c198, if_neg c210, if_neg c217, if_neg c229, if_neg c236])
    by_cases c134 : (if (((x3.toUInt32 >>> ((24 : Int32) &&& 31).toUInt32).toInt32) &&& (1 : Int32)) = (0 : Int32) then (0 : Int32) else (1 : Int32)) = (0 : Int32)
    · refine Go.of (fun _ q => XS.ifYes X16.here hx rfl (pc0 := 134) (pc' := 179) rfl (hb hby at_134) rfl ((if0 _ _).trans (teq c134).1) (by decide) (by decide) q) ?_
      show Go _ _ _ _ _ _ _ (T16.setTop (mkF m 179 #[.val (.int x1), .val (.int x2), .val (.int x3), .val (.int x4), .val (.int x5), .val (.int (Int32.ofNat k1)), .val (.int (Int32.ofNat k2)), .val (.int (Int32.ofNat k3)), .val (.int (Int32.ofNat k4)), .val (.int sp1), .val (.int sp2), .val (.int sp3), .val (.int sp4), .val (.int (Int32.ofNat j1)), .val (.int (Int32.ofNat j2)), .val (.int (Int32.ofNat j3)), .val (.int (Int32.ofNat j4)), .val (.int (Int32.ofNat jq)), .val (.int on1), .val (.int zJ15_0), .unset, .unset, .unset, .unset, .unset] []))
      refine Go.of (fun _ q => XS.iconst X16.here hx rfl (hb hby at_179) q) ?_
      show Go _ _ _ _ _ _ _ (T16.setTop (mkF m 180 #[.val (.int x1), .val (.int x2), .val (.int x3), .val (.int x4), .val (.int x5), .val (.int (Int32.ofNat k1)), .val (.int (Int32.ofNat k2)), .val (.int (Int32.ofNat k3)), .val (.int (Int32.ofNat k4)), .val (.int sp1), .val (.int sp2), .val (.int sp3), .val (.int sp4), .val (.int (Int32.ofNat j1)), .val (.int (Int32.ofNat j2)), .val (.int (Int32.ofNat j3)), .val (.int (Int32.ofNat j4)), .val (.int (Int32.ofNat jq)), .val (.int on1), .val (.int zJ15_0), .unset, .unset, .unset, .unset, .unset] [(.int (0 : Int32))]))
      exact J17 _ (by rw [if_pos c134])
    · refine Go.of (fun _ q => XS.ifNo X16.here hx rfl (hb hby at_134) rfl ((if0 _ _).trans (feq c134).1) q) ?_
      show Go _ _ _ _ _ _ _ (T16.setTop (mkF m 137 #[.val (.int x1), .val (.int x2), .val (.int x3), .val (.int x4), .val (.int x5), .val (.int (Int32.ofNat k1)), .val (.int (Int32.ofNat k2)), .val (.int (Int32.ofNat k3)), .val (.int (Int32.ofNat k4)), .val (.int sp1), .val (.int sp2), .val (.int sp3), .val (.int sp4), .val (.int (Int32.ofNat j1)), .val (.int (Int32.ofNat j2)), .val (.int (Int32.ofNat j3)), .val (.int (Int32.ofNat j4)), .val (.int (Int32.ofNat jq)), .val (.int on1), .val (.int zJ15_0), .unset, .unset, .unset, .unset, .unset] []))
      refine Go.of (fun _ q => XS.iload X16.here hx rfl (hb hby at_137) rfl q) ?_
      show Go _ _ _ _ _ _ _ (T16.setTop (mkF m 139 #[.val (.int x1), .val (.int x2), .val (.int x3), .val (.int x4), .val (.int x5), .val (.int (Int32.ofNat k1)), .val (.int (Int32.ofNat k2)), .val (.int (Int32.ofNat k3)), .val (.int (Int32.ofNat k4)), .val (.int sp1), .val (.int sp2), .val (.int sp3), .val (.int sp4), .val (.int (Int32.ofNat j1)), .val (.int (Int32.ofNat j2)), .val (.int (Int32.ofNat j3)), .val (.int (Int32.ofNat j4)), .val (.int (Int32.ofNat jq)), .val (.int on1), .val (.int zJ15_0), .unset, .unset, .unset, .unset, .unset] [(.int on1)]))
      by_cases c139 : on1 = (0 : Int32)
      · refine Go.of (fun _ q => XS.ifYes X16.here hx rfl (pc0 := 139) (pc' := 156) rfl (hb hby at_139) rfl ((if0 _ _).trans (teq c139).1) (by decide) (by decide) q) ?_
        show Go _ _ _ _ _ _ _ (T16.setTop (mkF m 156 #[.val (.int x1), .val (.int x2), .val (.int x3), .val (.int x4), .val (.int x5), .val (.int (Int32.ofNat k1)), .val (.int (Int32.ofNat k2)), .val (.int (Int32.ofNat k3)), .val (.int (Int32.ofNat k4)), .val (.int sp1), .val (.int sp2), .val (.int sp3), .val (.int sp4), .val (.int (Int32.ofNat j1)), .val (.int (Int32.ofNat j2)), .val (.int (Int32.ofNat j3)), .val (.int (Int32.ofNat j4)), .val (.int (Int32.ofNat jq)), .val (.int on1), .val (.int zJ15_0), .unset, .unset, .unset, .unset, .unset] []))
        refine Go.of (fun _ q => XS.iload X16.here hx rfl (hb hby at_156) rfl q) ?_
        show Go _ _ _ _ _ _ _ (T16.setTop (mkF m 158 #[.val (.int x1), .val (.int x2), .val (.int x3), .val (.int x4), .val (.int x5), .val (.int (Int32.ofNat k1)), .val (.int (Int32.ofNat k2)), .val (.int (Int32.ofNat k3)), .val (.int (Int32.ofNat k4)), .val (.int sp1), .val (.int sp2), .val (.int sp3), .val (.int sp4), .val (.int (Int32.ofNat j1)), .val (.int (Int32.ofNat j2)), .val (.int (Int32.ofNat j3)), .val (.int (Int32.ofNat j4)), .val (.int (Int32.ofNat jq)), .val (.int on1), .val (.int zJ15_0), .unset, .unset, .unset, .unset, .unset] [(.int zJ15_0)]))
        by_cases c158 : zJ15_0 = (0 : Int32)
        · refine Go.of (fun _ q => XS.ifYes X16.here hx rfl (pc0 := 158) (pc' := 175) rfl (hb hby at_158) rfl ((if0 _ _).trans (teq c158).1) (by decide) (by decide) q) ?_
          show Go _ _ _ _ _ _ _ (T16.setTop (mkF m 175 #[.val (.int x1), .val (.int x2), .val (.int x3), .val (.int x4), .val (.int x5), .val (.int (Int32.ofNat k1)), .val (.int (Int32.ofNat k2)), .val (.int (Int32.ofNat k3)), .val (.int (Int32.ofNat k4)), .val (.int sp1), .val (.int sp2), .val (.int sp3), .val (.int sp4), .val (.int (Int32.ofNat j1)), .val (.int (Int32.ofNat j2)), .val (.int (Int32.ofNat j3)), .val (.int (Int32.ofNat j4)), .val (.int (Int32.ofNat jq)), .val (.int on1), .val (.int zJ15_0), .unset, .unset, .unset, .unset, .unset] []))
          refine Go.of (fun _ q => XS.iconst X16.here hx rfl (hb hby at_175) q) ?_
          show Go _ _ _ _ _ _ _ (T16.setTop (mkF m 176 #[.val (.int x1), .val (.int x2), .val (.int x3), .val (.int x4), .val (.int x5), .val (.int (Int32.ofNat k1)), .val (.int (Int32.ofNat k2)), .val (.int (Int32.ofNat k3)), .val (.int (Int32.ofNat k4)), .val (.int sp1), .val (.int sp2), .val (.int sp3), .val (.int sp4), .val (.int (Int32.ofNat j1)), .val (.int (Int32.ofNat j2)), .val (.int (Int32.ofNat j3)), .val (.int (Int32.ofNat j4)), .val (.int (Int32.ofNat jq)), .val (.int on1), .val (.int zJ15_0), .unset, .unset, .unset, .unset, .unset] [(.int (1 : Int32))]))
          refine Go.of (fun _ q => XS.goto X16.here hx rfl (pc0 := 176) (pc' := 180) rfl (hb hby at_176) (by decide) (by decide) q) ?_
          show Go _ _ _ _ _ _ _ (T16.setTop (mkF m 180 #[.val (.int x1), .val (.int x2), .val (.int x3), .val (.int x4), .val (.int x5), .val (.int (Int32.ofNat k1)), .val (.int (Int32.ofNat k2)), .val (.int (Int32.ofNat k3)), .val (.int (Int32.ofNat k4)), .val (.int sp1), .val (.int sp2), .val (.int sp3), .val (.int sp4), .val (.int (Int32.ofNat j1)), .val (.int (Int32.ofNat j2)), .val (.int (Int32.ofNat j3)), .val (.int (Int32.ofNat j4)), .val (.int (Int32.ofNat jq)), .val (.int on1), .val (.int zJ15_0), .unset, .unset, .unset, .unset, .unset] [(.int (1 : Int32))]))
          exact J17 _ (by rw [if_neg c134, if_pos c139, if_pos c158])
        · refine Go.of (fun _ q => XS.ifNo X16.here hx rfl (hb hby at_158) rfl ((if0 _ _).trans (feq c158).1) q) ?_
          show Go _ _ _ _ _ _ _ (T16.setTop (mkF m 161 #[.val (.int x1), .val (.int x2), .val (.int x3), .val (.int x4), .val (.int x5), .val (.int (Int32.ofNat k1)), .val (.int (Int32.ofNat k2)), .val (.int (Int32.ofNat k3)), .val (.int (Int32.ofNat k4)), .val (.int sp1), .val (.int sp2), .val (.int sp3), .val (.int sp4), .val (.int (Int32.ofNat j1)), .val (.int (Int32.ofNat j2)), .val (.int (Int32.ofNat j3)), .val (.int (Int32.ofNat j4)), .val (.int (Int32.ofNat jq)), .val (.int on1), .val (.int zJ15_0), .unset, .unset, .unset, .unset, .unset] []))
          refine Go.of (fun _ q => XS.iload X16.here hx rfl (hb hby at_161) rfl q) ?_
          show Go _ _ _ _ _ _ _ (T16.setTop (mkF m 163 #[.val (.int x1), .val (.int x2), .val (.int x3), .val (.int x4), .val (.int x5), .val (.int (Int32.ofNat k1)), .val (.int (Int32.ofNat k2)), .val (.int (Int32.ofNat k3)), .val (.int (Int32.ofNat k4)), .val (.int sp1), .val (.int sp2), .val (.int sp3), .val (.int sp4), .val (.int (Int32.ofNat j1)), .val (.int (Int32.ofNat j2)), .val (.int (Int32.ofNat j3)), .val (.int (Int32.ofNat j4)), .val (.int (Int32.ofNat jq)), .val (.int on1), .val (.int zJ15_0), .unset, .unset, .unset, .unset, .unset] [(.int (Int32.ofNat k2))]))
          refine Go.of (fun _ q => XS.iload X16.here hx rfl (hb hby at_163) rfl q) ?_
          show Go _ _ _ _ _ _ _ (T16.setTop (mkF m 165 #[.val (.int x1), .val (.int x2), .val (.int x3), .val (.int x4), .val (.int x5), .val (.int (Int32.ofNat k1)), .val (.int (Int32.ofNat k2)), .val (.int (Int32.ofNat k3)), .val (.int (Int32.ofNat k4)), .val (.int sp1), .val (.int sp2), .val (.int sp3), .val (.int sp4), .val (.int (Int32.ofNat j1)), .val (.int (Int32.ofNat j2)), .val (.int (Int32.ofNat j3)), .val (.int (Int32.ofNat j4)), .val (.int (Int32.ofNat jq)), .val (.int on1), .val (.int zJ15_0), .unset, .unset, .unset, .unset, .unset] [(.int (Int32.ofNat k3)), (.int (Int32.ofNat k2))]))
          by_cases c165 : (Int32.ofNat k2) = (Int32.ofNat k3)
          · refine Go.of (fun _ q => XS.icmpNo X16.here hx rfl (hb hby at_165) rfl (teq c165).2 q) ?_
            show Go _ _ _ _ _ _ _ (T16.setTop (mkF m 168 #[.val (.int x1), .val (.int x2), .val (.int x3), .val (.int x4), .val (.int x5), .val (.int (Int32.ofNat k1)), .val (.int (Int32.ofNat k2)), .val (.int (Int32.ofNat k3)), .val (.int (Int32.ofNat k4)), .val (.int sp1), .val (.int sp2), .val (.int sp3), .val (.int sp4), .val (.int (Int32.ofNat j1)), .val (.int (Int32.ofNat j2)), .val (.int (Int32.ofNat j3)), .val (.int (Int32.ofNat j4)), .val (.int (Int32.ofNat jq)), .val (.int on1), .val (.int zJ15_0), .unset, .unset, .unset, .unset, .unset] []))
            refine Go.of (fun _ q => XS.iload X16.here hx rfl (hb hby at_168) rfl q) ?_
            show Go _ _ _ _ _ _ _ (T16.setTop (mkF m 170 #[.val (.int x1), .val (.int x2), .val (.int x3), .val (.int x4), .val (.int x5), .val (.int (Int32.ofNat k1)), .val (.int (Int32.ofNat k2)), .val (.int (Int32.ofNat k3)), .val (.int (Int32.ofNat k4)), .val (.int sp1), .val (.int sp2), .val (.int sp3), .val (.int sp4), .val (.int (Int32.ofNat j1)), .val (.int (Int32.ofNat j2)), .val (.int (Int32.ofNat j3)), .val (.int (Int32.ofNat j4)), .val (.int (Int32.ofNat jq)), .val (.int on1), .val (.int zJ15_0), .unset, .unset, .unset, .unset, .unset] [(.int sp2)]))
            refine Go.of (fun _ q => XS.iload X16.here hx rfl (hb hby at_170) rfl q) ?_
            show Go _ _ _ _ _ _ _ (T16.setTop (mkF m 172 #[.val (.int x1), .val (.int x2), .val (.int x3), .val (.int x4), .val (.int x5), .val (.int (Int32.ofNat k1)), .val (.int (Int32.ofNat k2)), .val (.int (Int32.ofNat k3)), .val (.int (Int32.ofNat k4)), .val (.int sp1), .val (.int sp2), .val (.int sp3), .val (.int sp4), .val (.int (Int32.ofNat j1)), .val (.int (Int32.ofNat j2)), .val (.int (Int32.ofNat j3)), .val (.int (Int32.ofNat j4)), .val (.int (Int32.ofNat jq)), .val (.int on1), .val (.int zJ15_0), .unset, .unset, .unset, .unset, .unset] [(.int sp3), (.int sp2)]))
            by_cases c172 : sp2 = sp3
            · refine Go.of (fun _ q => XS.icmpYes X16.here hx rfl (pc0 := 172) (pc' := 179) rfl (hb hby at_172) rfl (teq c172).1 (by decide) (by decide) q) ?_
              show Go _ _ _ _ _ _ _ (T16.setTop (mkF m 179 #[.val (.int x1), .val (.int x2), .val (.int x3), .val (.int x4), .val (.int x5), .val (.int (Int32.ofNat k1)), .val (.int (Int32.ofNat k2)), .val (.int (Int32.ofNat k3)), .val (.int (Int32.ofNat k4)), .val (.int sp1), .val (.int sp2), .val (.int sp3), .val (.int sp4), .val (.int (Int32.ofNat j1)), .val (.int (Int32.ofNat j2)), .val (.int (Int32.ofNat j3)), .val (.int (Int32.ofNat j4)), .val (.int (Int32.ofNat jq)), .val (.int on1), .val (.int zJ15_0), .unset, .unset, .unset, .unset, .unset] []))
              refine Go.of (fun _ q => XS.iconst X16.here hx rfl (hb hby at_179) q) ?_
              show Go _ _ _ _ _ _ _ (T16.setTop (mkF m 180 #[.val (.int x1), .val (.int x2), .val (.int x3), .val (.int x4), .val (.int x5), .val (.int (Int32.ofNat k1)), .val (.int (Int32.ofNat k2)), .val (.int (Int32.ofNat k3)), .val (.int (Int32.ofNat k4)), .val (.int sp1), .val (.int sp2), .val (.int sp3), .val (.int sp4), .val (.int (Int32.ofNat j1)), .val (.int (Int32.ofNat j2)), .val (.int (Int32.ofNat j3)), .val (.int (Int32.ofNat j4)), .val (.int (Int32.ofNat jq)), .val (.int on1), .val (.int zJ15_0), .unset, .unset, .unset, .unset, .unset] [(.int (0 : Int32))]))
              exact J17 _ (by rw [if_neg c134, if_pos c139, if_neg c158, if_pos c165, if_pos c172])
            · refine Go.of (fun _ q => XS.icmpNo X16.here hx rfl (hb hby at_172) rfl (feq c172).1 q) ?_
              show Go _ _ _ _ _ _ _ (T16.setTop (mkF m 175 #[.val (.int x1), .val (.int x2), .val (.int x3), .val (.int x4), .val (.int x5), .val (.int (Int32.ofNat k1)), .val (.int (Int32.ofNat k2)), .val (.int (Int32.ofNat k3)), .val (.int (Int32.ofNat k4)), .val (.int sp1), .val (.int sp2), .val (.int sp3), .val (.int sp4), .val (.int (Int32.ofNat j1)), .val (.int (Int32.ofNat j2)), .val (.int (Int32.ofNat j3)), .val (.int (Int32.ofNat j4)), .val (.int (Int32.ofNat jq)), .val (.int on1), .val (.int zJ15_0), .unset, .unset, .unset, .unset, .unset] []))
              refine Go.of (fun _ q => XS.iconst X16.here hx rfl (hb hby at_175) q) ?_
              show Go _ _ _ _ _ _ _ (T16.setTop (mkF m 176 #[.val (.int x1), .val (.int x2), .val (.int x3), .val (.int x4), .val (.int x5), .val (.int (Int32.ofNat k1)), .val (.int (Int32.ofNat k2)), .val (.int (Int32.ofNat k3)), .val (.int (Int32.ofNat k4)), .val (.int sp1), .val (.int sp2), .val (.int sp3), .val (.int sp4), .val (.int (Int32.ofNat j1)), .val (.int (Int32.ofNat j2)), .val (.int (Int32.ofNat j3)), .val (.int (Int32.ofNat j4)), .val (.int (Int32.ofNat jq)), .val (.int on1), .val (.int zJ15_0), .unset, .unset, .unset, .unset, .unset] [(.int (1 : Int32))]))
              refine Go.of (fun _ q => XS.goto X16.here hx rfl (pc0 := 176) (pc' := 180) rfl (hb hby at_176) (by decide) (by decide) q) ?_
              show Go _ _ _ _ _ _ _ (T16.setTop (mkF m 180 #[.val (.int x1), .val (.int x2), .val (.int x3), .val (.int x4), .val (.int x5), .val (.int (Int32.ofNat k1)), .val (.int (Int32.ofNat k2)), .val (.int (Int32.ofNat k3)), .val (.int (Int32.ofNat k4)), .val (.int sp1), .val (.int sp2), .val (.int sp3), .val (.int sp4), .val (.int (Int32.ofNat j1)), .val (.int (Int32.ofNat j2)), .val (.int (Int32.ofNat j3)), .val (.int (Int32.ofNat j4)), .val (.int (Int32.ofNat jq)), .val (.int on1), .val (.int zJ15_0), .unset, .unset, .unset, .unset, .unset] [(.int (1 : Int32))]))
              exact J17 _ (by rw [if_neg c134, if_pos c139, if_neg c158, if_pos c165, if_neg c172])
          · refine Go.of (fun _ q => XS.icmpYes X16.here hx rfl (pc0 := 165) (pc' := 175) rfl (hb hby at_165) rfl (feq c165).2 (by decide) (by decide) q) ?_
            show Go _ _ _ _ _ _ _ (T16.setTop (mkF m 175 #[.val (.int x1), .val (.int x2), .val (.int x3), .val (.int x4), .val (.int x5), .val (.int (Int32.ofNat k1)), .val (.int (Int32.ofNat k2)), .val (.int (Int32.ofNat k3)), .val (.int (Int32.ofNat k4)), .val (.int sp1), .val (.int sp2), .val (.int sp3), .val (.int sp4), .val (.int (Int32.ofNat j1)), .val (.int (Int32.ofNat j2)), .val (.int (Int32.ofNat j3)), .val (.int (Int32.ofNat j4)), .val (.int (Int32.ofNat jq)), .val (.int on1), .val (.int zJ15_0), .unset, .unset, .unset, .unset, .unset] []))
            refine Go.of (fun _ q => XS.iconst X16.here hx rfl (hb hby at_175) q) ?_
            show Go _ _ _ _ _ _ _ (T16.setTop (mkF m 176 #[.val (.int x1), .val (.int x2), .val (.int x3), .val (.int x4), .val (.int x5), .val (.int (Int32.ofNat k1)), .val (.int (Int32.ofNat k2)), .val (.int (Int32.ofNat k3)), .val (.int (Int32.ofNat k4)), .val (.int sp1), .val (.int sp2), .val (.int sp3), .val (.int sp4), .val (.int (Int32.ofNat j1)), .val (.int (Int32.ofNat j2)), .val (.int (Int32.ofNat j3)), .val (.int (Int32.ofNat j4)), .val (.int (Int32.ofNat jq)), .val (.int on1), .val (.int zJ15_0), .unset, .unset, .unset, .unset, .unset] [(.int (1 : Int32))]))
            refine Go.of (fun _ q => XS.goto X16.here hx rfl (pc0 := 176) (pc' := 180) rfl (hb hby at_176) (by decide) (by decide) q) ?_
            show Go _ _ _ _ _ _ _ (T16.setTop (mkF m 180 #[.val (.int x1), .val (.int x2), .val (.int x3), .val (.int x4), .val (.int x5), .val (.int (Int32.ofNat k1)), .val (.int (Int32.ofNat k2)), .val (.int (Int32.ofNat k3)), .val (.int (Int32.ofNat k4)), .val (.int sp1), .val (.int sp2), .val (.int sp3), .val (.int sp4), .val (.int (Int32.ofNat j1)), .val (.int (Int32.ofNat j2)), .val (.int (Int32.ofNat j3)), .val (.int (Int32.ofNat j4)), .val (.int (Int32.ofNat jq)), .val (.int on1), .val (.int zJ15_0), .unset, .unset, .unset, .unset, .unset] [(.int (1 : Int32))]))
            exact J17 _ (by rw [if_neg c134, if_pos c139, if_neg c158, if_neg c165])
      · refine Go.of (fun _ q => XS.ifNo X16.here hx rfl (hb hby at_139) rfl ((if0 _ _).trans (feq c139).1) q) ?_
        show Go _ _ _ _ _ _ _ (T16.setTop (mkF m 142 #[.val (.int x1), .val (.int x2), .val (.int x3), .val (.int x4), .val (.int x5), .val (.int (Int32.ofNat k1)), .val (.int (Int32.ofNat k2)), .val (.int (Int32.ofNat k3)), .val (.int (Int32.ofNat k4)), .val (.int sp1), .val (.int sp2), .val (.int sp3), .val (.int sp4), .val (.int (Int32.ofNat j1)), .val (.int (Int32.ofNat j2)), .val (.int (Int32.ofNat j3)), .val (.int (Int32.ofNat j4)), .val (.int (Int32.ofNat jq)), .val (.int on1), .val (.int zJ15_0), .unset, .unset, .unset, .unset, .unset] []))
        refine Go.of (fun _ q => XS.iload X16.here hx rfl (hb hby at_142) rfl q) ?_
        show Go _ _ _ _ _ _ _ (T16.setTop (mkF m 144 #[.val (.int x1), .val (.int x2), .val (.int x3), .val (.int x4), .val (.int x5), .val (.int (Int32.ofNat k1)), .val (.int (Int32.ofNat k2)), .val (.int (Int32.ofNat k3)), .val (.int (Int32.ofNat k4)), .val (.int sp1), .val (.int sp2), .val (.int sp3), .val (.int sp4), .val (.int (Int32.ofNat j1)), .val (.int (Int32.ofNat j2)), .val (.int (Int32.ofNat j3)), .val (.int (Int32.ofNat j4)), .val (.int (Int32.ofNat jq)), .val (.int on1), .val (.int zJ15_0), .unset, .unset, .unset, .unset, .unset] [(.int (Int32.ofNat k1))]))
        refine Go.of (fun _ q => XS.iload X16.here hx rfl (hb hby at_144) rfl q) ?_
        show Go _ _ _ _ _ _ _ (T16.setTop (mkF m 146 #[.val (.int x1), .val (.int x2), .val (.int x3), .val (.int x4), .val (.int x5), .val (.int (Int32.ofNat k1)), .val (.int (Int32.ofNat k2)), .val (.int (Int32.ofNat k3)), .val (.int (Int32.ofNat k4)), .val (.int sp1), .val (.int sp2), .val (.int sp3), .val (.int sp4), .val (.int (Int32.ofNat j1)), .val (.int (Int32.ofNat j2)), .val (.int (Int32.ofNat j3)), .val (.int (Int32.ofNat j4)), .val (.int (Int32.ofNat jq)), .val (.int on1), .val (.int zJ15_0), .unset, .unset, .unset, .unset, .unset] [(.int (Int32.ofNat k3)), (.int (Int32.ofNat k1))]))
        by_cases c146 : (Int32.ofNat k1) = (Int32.ofNat k3)
        · refine Go.of (fun _ q => XS.icmpNo X16.here hx rfl (hb hby at_146) rfl (teq c146).2 q) ?_
          show Go _ _ _ _ _ _ _ (T16.setTop (mkF m 149 #[.val (.int x1), .val (.int x2), .val (.int x3), .val (.int x4), .val (.int x5), .val (.int (Int32.ofNat k1)), .val (.int (Int32.ofNat k2)), .val (.int (Int32.ofNat k3)), .val (.int (Int32.ofNat k4)), .val (.int sp1), .val (.int sp2), .val (.int sp3), .val (.int sp4), .val (.int (Int32.ofNat j1)), .val (.int (Int32.ofNat j2)), .val (.int (Int32.ofNat j3)), .val (.int (Int32.ofNat j4)), .val (.int (Int32.ofNat jq)), .val (.int on1), .val (.int zJ15_0), .unset, .unset, .unset, .unset, .unset] []))
          refine Go.of (fun _ q => XS.iload X16.here hx rfl (hb hby at_149) rfl q) ?_
          show Go _ _ _ _ _ _ _ (T16.setTop (mkF m 151 #[.val (.int x1), .val (.int x2), .val (.int x3), .val (.int x4), .val (.int x5), .val (.int (Int32.ofNat k1)), .val (.int (Int32.ofNat k2)), .val (.int (Int32.ofNat k3)), .val (.int (Int32.ofNat k4)), .val (.int sp1), .val (.int sp2), .val (.int sp3), .val (.int sp4), .val (.int (Int32.ofNat j1)), .val (.int (Int32.ofNat j2)), .val (.int (Int32.ofNat j3)), .val (.int (Int32.ofNat j4)), .val (.int (Int32.ofNat jq)), .val (.int on1), .val (.int zJ15_0), .unset, .unset, .unset, .unset, .unset] [(.int sp1)]))
          refine Go.of (fun _ q => XS.iload X16.here hx rfl (hb hby at_151) rfl q) ?_
          show Go _ _ _ _ _ _ _ (T16.setTop (mkF m 153 #[.val (.int x1), .val (.int x2), .val (.int x3), .val (.int x4), .val (.int x5), .val (.int (Int32.ofNat k1)), .val (.int (Int32.ofNat k2)), .val (.int (Int32.ofNat k3)), .val (.int (Int32.ofNat k4)), .val (.int sp1), .val (.int sp2), .val (.int sp3), .val (.int sp4), .val (.int (Int32.ofNat j1)), .val (.int (Int32.ofNat j2)), .val (.int (Int32.ofNat j3)), .val (.int (Int32.ofNat j4)), .val (.int (Int32.ofNat jq)), .val (.int on1), .val (.int zJ15_0), .unset, .unset, .unset, .unset, .unset] [(.int sp3), (.int sp1)]))
          by_cases c153 : sp1 = sp3
          · refine Go.of (fun _ q => XS.icmpYes X16.here hx rfl (pc0 := 153) (pc' := 179) rfl (hb hby at_153) rfl (teq c153).1 (by decide) (by decide) q) ?_
            show Go _ _ _ _ _ _ _ (T16.setTop (mkF m 179 #[.val (.int x1), .val (.int x2), .val (.int x3), .val (.int x4), .val (.int x5), .val (.int (Int32.ofNat k1)), .val (.int (Int32.ofNat k2)), .val (.int (Int32.ofNat k3)), .val (.int (Int32.ofNat k4)), .val (.int sp1), .val (.int sp2), .val (.int sp3), .val (.int sp4), .val (.int (Int32.ofNat j1)), .val (.int (Int32.ofNat j2)), .val (.int (Int32.ofNat j3)), .val (.int (Int32.ofNat j4)), .val (.int (Int32.ofNat jq)), .val (.int on1), .val (.int zJ15_0), .unset, .unset, .unset, .unset, .unset] []))
            refine Go.of (fun _ q => XS.iconst X16.here hx rfl (hb hby at_179) q) ?_
            show Go _ _ _ _ _ _ _ (T16.setTop (mkF m 180 #[.val (.int x1), .val (.int x2), .val (.int x3), .val (.int x4), .val (.int x5), .val (.int (Int32.ofNat k1)), .val (.int (Int32.ofNat k2)), .val (.int (Int32.ofNat k3)), .val (.int (Int32.ofNat k4)), .val (.int sp1), .val (.int sp2), .val (.int sp3), .val (.int sp4), .val (.int (Int32.ofNat j1)), .val (.int (Int32.ofNat j2)), .val (.int (Int32.ofNat j3)), .val (.int (Int32.ofNat j4)), .val (.int (Int32.ofNat jq)), .val (.int on1), .val (.int zJ15_0), .unset, .unset, .unset, .unset, .unset] [(.int (0 : Int32))]))
            exact J17 _ (by rw [if_neg c134, if_neg c139, if_pos c146, if_pos c153])
          · refine Go.of (fun _ q => XS.icmpNo X16.here hx rfl (hb hby at_153) rfl (feq c153).1 q) ?_
            show Go _ _ _ _ _ _ _ (T16.setTop (mkF m 156 #[.val (.int x1), .val (.int x2), .val (.int x3), .val (.int x4), .val (.int x5), .val (.int (Int32.ofNat k1)), .val (.int (Int32.ofNat k2)), .val (.int (Int32.ofNat k3)), .val (.int (Int32.ofNat k4)), .val (.int sp1), .val (.int sp2), .val (.int sp3), .val (.int sp4), .val (.int (Int32.ofNat j1)), .val (.int (Int32.ofNat j2)), .val (.int (Int32.ofNat j3)), .val (.int (Int32.ofNat j4)), .val (.int (Int32.ofNat jq)), .val (.int on1), .val (.int zJ15_0), .unset, .unset, .unset, .unset, .unset] []))
            refine Go.of (fun _ q => XS.iload X16.here hx rfl (hb hby at_156) rfl q) ?_
            show Go _ _ _ _ _ _ _ (T16.setTop (mkF m 158 #[.val (.int x1), .val (.int x2), .val (.int x3), .val (.int x4), .val (.int x5), .val (.int (Int32.ofNat k1)), .val (.int (Int32.ofNat k2)), .val (.int (Int32.ofNat k3)), .val (.int (Int32.ofNat k4)), .val (.int sp1), .val (.int sp2), .val (.int sp3), .val (.int sp4), .val (.int (Int32.ofNat j1)), .val (.int (Int32.ofNat j2)), .val (.int (Int32.ofNat j3)), .val (.int (Int32.ofNat j4)), .val (.int (Int32.ofNat jq)), .val (.int on1), .val (.int zJ15_0), .unset, .unset, .unset, .unset, .unset] [(.int zJ15_0)]))
            by_cases c158 : zJ15_0 = (0 : Int32)
            · refine Go.of (fun _ q => XS.ifYes X16.here hx rfl (pc0 := 158) (pc' := 175) rfl (hb hby at_158) rfl ((if0 _ _).trans (teq c158).1) (by decide) (by decide) q) ?_
              show Go _ _ _ _ _ _ _ (T16.setTop (mkF m 175 #[.val (.int x1), .val (.int x2), .val (.int x3), .val (.int x4), .val (.int x5), .val (.int (Int32.ofNat k1)), .val (.int (Int32.ofNat k2)), .val (.int (Int32.ofNat k3)), .val (.int (Int32.ofNat k4)), .val (.int sp1), .val (.int sp2), .val (.int sp3), .val (.int sp4), .val (.int (Int32.ofNat j1)), .val (.int (Int32.ofNat j2)), .val (.int (Int32.ofNat j3)), .val (.int (Int32.ofNat j4)), .val (.int (Int32.ofNat jq)), .val (.int on1), .val (.int zJ15_0), .unset, .unset, .unset, .unset, .unset] []))
              refine Go.of (fun _ q => XS.iconst X16.here hx rfl (hb hby at_175) q) ?_
              show Go _ _ _ _ _ _ _ (T16.setTop (mkF m 176 #[.val (.int x1), .val (.int x2), .val (.int x3), .val (.int x4), .val (.int x5), .val (.int (Int32.ofNat k1)), .val (.int (Int32.ofNat k2)), .val (.int (Int32.ofNat k3)), .val (.int (Int32.ofNat k4)), .val (.int sp1), .val (.int sp2), .val (.int sp3), .val (.int sp4), .val (.int (Int32.ofNat j1)), .val (.int (Int32.ofNat j2)), .val (.int (Int32.ofNat j3)), .val (.int (Int32.ofNat j4)), .val (.int (Int32.ofNat jq)), .val (.int on1), .val (.int zJ15_0), .unset, .unset, .unset, .unset, .unset] [(.int (1 : Int32))]))
              refine Go.of (fun _ q => XS.goto X16.here hx rfl (pc0 := 176) (pc' := 180) rfl (hb hby at_176) (by decide) (by decide) q) ?_
              show Go _ _ _ _ _ _ _ (T16.setTop (mkF m 180 #[.val (.int x1), .val (.int x2), .val (.int x3), .val (.int x4), .val (.int x5), .val (.int (Int32.ofNat k1)), .val (.int (Int32.ofNat k2)), .val (.int (Int32.ofNat k3)), .val (.int (Int32.ofNat k4)), .val (.int sp1), .val (.int sp2), .val (.int sp3), .val (.int sp4), .val (.int (Int32.ofNat j1)), .val (.int (Int32.ofNat j2)), .val (.int (Int32.ofNat j3)), .val (.int (Int32.ofNat j4)), .val (.int (Int32.ofNat jq)), .val (.int on1), .val (.int zJ15_0), .unset, .unset, .unset, .unset, .unset] [(.int (1 : Int32))]))
              exact J17 _ (by rw [if_neg c134, if_neg c139, if_pos c146, if_neg c153, if_pos c158])
            · refine Go.of (fun _ q => XS.ifNo X16.here hx rfl (hb hby at_158) rfl ((if0 _ _).trans (feq c158).1) q) ?_
              show Go _ _ _ _ _ _ _ (T16.setTop (mkF m 161 #[.val (.int x1), .val (.int x2), .val (.int x3), .val (.int x4), .val (.int x5), .val (.int (Int32.ofNat k1)), .val (.int (Int32.ofNat k2)), .val (.int (Int32.ofNat k3)), .val (.int (Int32.ofNat k4)), .val (.int sp1), .val (.int sp2), .val (.int sp3), .val (.int sp4), .val (.int (Int32.ofNat j1)), .val (.int (Int32.ofNat j2)), .val (.int (Int32.ofNat j3)), .val (.int (Int32.ofNat j4)), .val (.int (Int32.ofNat jq)), .val (.int on1), .val (.int zJ15_0), .unset, .unset, .unset, .unset, .unset] []))
              refine Go.of (fun _ q => XS.iload X16.here hx rfl (hb hby at_161) rfl q) ?_
              show Go _ _ _ _ _ _ _ (T16.setTop (mkF m 163 #[.val (.int x1), .val (.int x2), .val (.int x3), .val (.int x4), .val (.int x5), .val (.int (Int32.ofNat k1)), .val (.int (Int32.ofNat k2)), .val (.int (Int32.ofNat k3)), .val (.int (Int32.ofNat k4)), .val (.int sp1), .val (.int sp2), .val (.int sp3), .val (.int sp4), .val (.int (Int32.ofNat j1)), .val (.int (Int32.ofNat j2)), .val (.int (Int32.ofNat j3)), .val (.int (Int32.ofNat j4)), .val (.int (Int32.ofNat jq)), .val (.int on1), .val (.int zJ15_0), .unset, .unset, .unset, .unset, .unset] [(.int (Int32.ofNat k2))]))
              refine Go.of (fun _ q => XS.iload X16.here hx rfl (hb hby at_163) rfl q) ?_
              show Go _ _ _ _ _ _ _ (T16.setTop (mkF m 165 #[.val (.int x1), .val (.int x2), .val (.int x3), .val (.int x4), .val (.int x5), .val (.int (Int32.ofNat k1)), .val (.int (Int32.ofNat k2)), .val (.int (Int32.ofNat k3)), .val (.int (Int32.ofNat k4)), .val (.int sp1), .val (.int sp2), .val (.int sp3), .val (.int sp4), .val (.int (Int32.ofNat j1)), .val (.int (Int32.ofNat j2)), .val (.int (Int32.ofNat j3)), .val (.int (Int32.ofNat j4)), .val (.int (Int32.ofNat jq)), .val (.int on1), .val (.int zJ15_0), .unset, .unset, .unset, .unset, .unset] [(.int (Int32.ofNat k3)), (.int (Int32.ofNat k2))]))
              by_cases c165 : (Int32.ofNat k2) = (Int32.ofNat k3)
              · refine Go.of (fun _ q => XS.icmpNo X16.here hx rfl (hb hby at_165) rfl (teq c165).2 q) ?_
                show Go _ _ _ _ _ _ _ (T16.setTop (mkF m 168 #[.val (.int x1), .val (.int x2), .val (.int x3), .val (.int x4), .val (.int x5), .val (.int (Int32.ofNat k1)), .val (.int (Int32.ofNat k2)), .val (.int (Int32.ofNat k3)), .val (.int (Int32.ofNat k4)), .val (.int sp1), .val (.int sp2), .val (.int sp3), .val (.int sp4), .val (.int (Int32.ofNat j1)), .val (.int (Int32.ofNat j2)), .val (.int (Int32.ofNat j3)), .val (.int (Int32.ofNat j4)), .val (.int (Int32.ofNat jq)), .val (.int on1), .val (.int zJ15_0), .unset, .unset, .unset, .unset, .unset] []))
                refine Go.of (fun _ q => XS.iload X16.here hx rfl (hb hby at_168) rfl q) ?_
                show Go _ _ _ _ _ _ _ (T16.setTop (mkF m 170 #[.val (.int x1), .val (.int x2), .val (.int x3), .val (.int x4), .val (.int x5), .val (.int (Int32.ofNat k1)), .val (.int (Int32.ofNat k2)), .val (.int (Int32.ofNat k3)), .val (.int (Int32.ofNat k4)), .val (.int sp1), .val (.int sp2), .val (.int sp3), .val (.int sp4), .val (.int (Int32.ofNat j1)), .val (.int (Int32.ofNat j2)), .val (.int (Int32.ofNat j3)), .val (.int (Int32.ofNat j4)), .val (.int (Int32.ofNat jq)), .val (.int on1), .val (.int zJ15_0), .unset, .unset, .unset, .unset, .unset] [(.int sp2)]))
                refine Go.of (fun _ q => XS.iload X16.here hx rfl (hb hby at_170) rfl q) ?_
                show Go _ _ _ _ _ _ _ (T16.setTop (mkF m 172 #[.val (.int x1), .val (.int x2), .val (.int x3), .val (.int x4), .val (.int x5), .val (.int (Int32.ofNat k1)), .val (.int (Int32.ofNat k2)), .val (.int (Int32.ofNat k3)), .val (.int (Int32.ofNat k4)), .val (.int sp1), .val (.int sp2), .val (.int sp3), .val (.int sp4), .val (.int (Int32.ofNat j1)), .val (.int (Int32.ofNat j2)), .val (.int (Int32.ofNat j3)), .val (.int (Int32.ofNat j4)), .val (.int (Int32.ofNat jq)), .val (.int on1), .val (.int zJ15_0), .unset, .unset, .unset, .unset, .unset] [(.int sp3), (.int sp2)]))
                by_cases c172 : sp2 = sp3
                · refine Go.of (fun _ q => XS.icmpYes X16.here hx rfl (pc0 := 172) (pc' := 179) rfl (hb hby at_172) rfl (teq c172).1 (by decide) (by decide) q) ?_
                  show Go _ _ _ _ _ _ _ (T16.setTop (mkF m 179 #[.val (.int x1), .val (.int x2), .val (.int x3), .val (.int x4), .val (.int x5), .val (.int (Int32.ofNat k1)), .val (.int (Int32.ofNat k2)), .val (.int (Int32.ofNat k3)), .val (.int (Int32.ofNat k4)), .val (.int sp1), .val (.int sp2), .val (.int sp3), .val (.int sp4), .val (.int (Int32.ofNat j1)), .val (.int (Int32.ofNat j2)), .val (.int (Int32.ofNat j3)), .val (.int (Int32.ofNat j4)), .val (.int (Int32.ofNat jq)), .val (.int on1), .val (.int zJ15_0), .unset, .unset, .unset, .unset, .unset] []))
                  refine Go.of (fun _ q => XS.iconst X16.here hx rfl (hb hby at_179) q) ?_
                  show Go _ _ _ _ _ _ _ (T16.setTop (mkF m 180 #[.val (.int x1), .val (.int x2), .val (.int x3), .val (.int x4), .val (.int x5), .val (.int (Int32.ofNat k1)), .val (.int (Int32.ofNat k2)), .val (.int (Int32.ofNat k3)), .val (.int (Int32.ofNat k4)), .val (.int sp1), .val (.int sp2), .val (.int sp3), .val (.int sp4), .val (.int (Int32.ofNat j1)), .val (.int (Int32.ofNat j2)), .val (.int (Int32.ofNat j3)), .val (.int (Int32.ofNat j4)), .val (.int (Int32.ofNat jq)), .val (.int on1), .val (.int zJ15_0), .unset, .unset, .unset, .unset, .unset] [(.int (0 : Int32))]))
                  exact J17 _ (by rw [if_neg c134, if_neg c139, if_pos c146, if_neg c153, if_neg c158, if_pos c165, if_pos c172])
                · refine Go.of (fun _ q => XS.icmpNo X16.here hx rfl (hb hby at_172) rfl (feq c172).1 q) ?_
                  show Go _ _ _ _ _ _ _ (T16.setTop (mkF m 175 #[.val (.int x1), .val (.int x2), .val (.int x3), .val (.int x4), .val (.int x5), .val (.int (Int32.ofNat k1)), .val (.int (Int32.ofNat k2)), .val (.int (Int32.ofNat k3)), .val (.int (Int32.ofNat k4)), .val (.int sp1), .val (.int sp2), .val (.int sp3), .val (.int sp4), .val (.int (Int32.ofNat j1)), .val (.int (Int32.ofNat j2)), .val (.int (Int32.ofNat j3)), .val (.int (Int32.ofNat j4)), .val (.int (Int32.ofNat jq)), .val (.int on1), .val (.int zJ15_0), .unset, .unset, .unset, .unset, .unset] []))
                  refine Go.of (fun _ q => XS.iconst X16.here hx rfl (hb hby at_175) q) ?_
                  show Go _ _ _ _ _ _ _ (T16.setTop (mkF m 176 #[.val (.int x1), .val (.int x2), .val (.int x3), .val (.int x4), .val (.int x5), .val (.int (Int32.ofNat k1)), .val (.int (Int32.ofNat k2)), .val (.int (Int32.ofNat k3)), .val (.int (Int32.ofNat k4)), .val (.int sp1), .val (.int sp2), .val (.int sp3), .val (.int sp4), .val (.int (Int32.ofNat j1)), .val (.int (Int32.ofNat j2)), .val (.int (Int32.ofNat j3)), .val (.int (Int32.ofNat j4)), .val (.int (Int32.ofNat jq)), .val (.int on1), .val (.int zJ15_0), .unset, .unset, .unset, .unset, .unset] [(.int (1 : Int32))]))
                  refine Go.of (fun _ q => XS.goto X16.here hx rfl (pc0 := 176) (pc' := 180) rfl (hb hby at_176) (by decide) (by decide) q) ?_
                  show Go _ _ _ _ _ _ _ (T16.setTop (mkF m 180 #[.val (.int x1), .val (.int x2), .val (.int x3), .val (.int x4), .val (.int x5), .val (.int (Int32.ofNat k1)), .val (.int (Int32.ofNat k2)), .val (.int (Int32.ofNat k3)), .val (.int (Int32.ofNat k4)), .val (.int sp1), .val (.int sp2), .val (.int sp3), .val (.int sp4), .val (.int (Int32.ofNat j1)), .val (.int (Int32.ofNat j2)), .val (.int (Int32.ofNat j3)), .val (.int (Int32.ofNat j4)), .val (.int (Int32.ofNat jq)), .val (.int on1), .val (.int zJ15_0), .unset, .unset, .unset, .unset, .unset] [(.int (1 : Int32))]))
                  exact J17 _ (by rw [if_neg c134, if_neg c139, if_pos c146, if_neg c153, if_neg c158, if_pos c165, if_neg c172])
              · refine Go.of (fun _ q => XS.icmpYes X16.here hx rfl (pc0 := 165) (pc' := 175) rfl (hb hby at_165) rfl (feq c165).2 (by decide) (by decide) q) ?_
                show Go _ _ _ _ _ _ _ (T16.setTop (mkF m 175 #[.val (.int x1), .val (.int x2), .val (.int x3), .val (.int x4), .val (.int x5), .val (.int (Int32.ofNat k1)), .val (.int (Int32.ofNat k2)), .val (.int (Int32.ofNat k3)), .val (.int (Int32.ofNat k4)), .val (.int sp1), .val (.int sp2), .val (.int sp3), .val (.int sp4), .val (.int (Int32.ofNat j1)), .val (.int (Int32.ofNat j2)), .val (.int (Int32.ofNat j3)), .val (.int (Int32.ofNat j4)), .val (.int (Int32.ofNat jq)), .val (.int on1), .val (.int zJ15_0), .unset, .unset, .unset, .unset, .unset] []))
                refine Go.of (fun _ q => XS.iconst X16.here hx rfl (hb hby at_175) q) ?_
                show Go _ _ _ _ _ _ _ (T16.setTop (mkF m 176 #[.val (.int x1), .val (.int x2), .val (.int x3), .val (.int x4), .val (.int x5), .val (.int (Int32.ofNat k1)), .val (.int (Int32.ofNat k2)), .val (.int (Int32.ofNat k3)), .val (.int (Int32.ofNat k4)), .val (.int sp1), .val (.int sp2), .val (.int sp3), .val (.int sp4), .val (.int (Int32.ofNat j1)), .val (.int (Int32.ofNat j2)), .val (.int (Int32.ofNat j3)), .val (.int (Int32.ofNat j4)), .val (.int (Int32.ofNat jq)), .val (.int on1), .val (.int zJ15_0), .unset, .unset, .unset, .unset, .unset] [(.int (1 : Int32))]))
                refine Go.of (fun _ q => XS.goto X16.here hx rfl (pc0 := 176) (pc' := 180) rfl (hb hby at_176) (by decide) (by decide) q) ?_
                show Go _ _ _ _ _ _ _ (T16.setTop (mkF m 180 #[.val (.int x1), .val (.int x2), .val (.int x3), .val (.int x4), .val (.int x5), .val (.int (Int32.ofNat k1)), .val (.int (Int32.ofNat k2)), .val (.int (Int32.ofNat k3)), .val (.int (Int32.ofNat k4)), .val (.int sp1), .val (.int sp2), .val (.int sp3), .val (.int sp4), .val (.int (Int32.ofNat j1)), .val (.int (Int32.ofNat j2)), .val (.int (Int32.ofNat j3)), .val (.int (Int32.ofNat j4)), .val (.int (Int32.ofNat jq)), .val (.int on1), .val (.int zJ15_0), .unset, .unset, .unset, .unset, .unset] [(.int (1 : Int32))]))
                exact J17 _ (by rw [if_neg c134, if_neg c139, if_pos c146, if_neg c153, if_neg c158, if_neg c165])
        · refine Go.of (fun _ q => XS.icmpYes X16.here hx rfl (pc0 := 146) (pc' := 156) rfl (hb hby at_146) rfl (feq c146).2 (by decide) (by decide) q) ?_
          show Go _ _ _ _ _ _ _ (T16.setTop (mkF m 156 #[.val (.int x1), .val (.int x2), .val (.int x3), .val (.int x4), .val (.int x5), .val (.int (Int32.ofNat k1)), .val (.int (Int32.ofNat k2)), .val (.int (Int32.ofNat k3)), .val (.int (Int32.ofNat k4)), .val (.int sp1), .val (.int sp2), .val (.int sp3), .val (.int sp4), .val (.int (Int32.ofNat j1)), .val (.int (Int32.ofNat j2)), .val (.int (Int32.ofNat j3)), .val (.int (Int32.ofNat j4)), .val (.int (Int32.ofNat jq)), .val (.int on1), .val (.int zJ15_0), .unset, .unset, .unset, .unset, .unset] []))
          refine Go.of (fun _ q => XS.iload X16.here hx rfl (hb hby at_156) rfl q) ?_
          show Go _ _ _ _ _ _ _ (T16.setTop (mkF m 158 #[.val (.int x1), .val (.int x2), .val (.int x3), .val (.int x4), .val (.int x5), .val (.int (Int32.ofNat k1)), .val (.int (Int32.ofNat k2)), .val (.int (Int32.ofNat k3)), .val (.int (Int32.ofNat k4)), .val (.int sp1), .val (.int sp2), .val (.int sp3), .val (.int sp4), .val (.int (Int32.ofNat j1)), .val (.int (Int32.ofNat j2)), .val (.int (Int32.ofNat j3)), .val (.int (Int32.ofNat j4)), .val (.int (Int32.ofNat jq)), .val (.int on1), .val (.int zJ15_0), .unset, .unset, .unset, .unset, .unset] [(.int zJ15_0)]))
          by_cases c158 : zJ15_0 = (0 : Int32)
          · refine Go.of (fun _ q => XS.ifYes X16.here hx rfl (pc0 := 158) (pc' := 175) rfl (hb hby at_158) rfl ((if0 _ _).trans (teq c158).1) (by decide) (by decide) q) ?_
            show Go _ _ _ _ _ _ _ (T16.setTop (mkF m 175 #[.val (.int x1), .val (.int x2), .val (.int x3), .val (.int x4), .val (.int x5), .val (.int (Int32.ofNat k1)), .val (.int (Int32.ofNat k2)), .val (.int (Int32.ofNat k3)), .val (.int (Int32.ofNat k4)), .val (.int sp1), .val (.int sp2), .val (.int sp3), .val (.int sp4), .val (.int (Int32.ofNat j1)), .val (.int (Int32.ofNat j2)), .val (.int (Int32.ofNat j3)), .val (.int (Int32.ofNat j4)), .val (.int (Int32.ofNat jq)), .val (.int on1), .val (.int zJ15_0), .unset, .unset, .unset, .unset, .unset] []))
            refine Go.of (fun _ q => XS.iconst X16.here hx rfl (hb hby at_175) q) ?_
            show Go _ _ _ _ _ _ _ (T16.setTop (mkF m 176 #[.val (.int x1), .val (.int x2), .val (.int x3), .val (.int x4), .val (.int x5), .val (.int (Int32.ofNat k1)), .val (.int (Int32.ofNat k2)), .val (.int (Int32.ofNat k3)), .val (.int (Int32.ofNat k4)), .val (.int sp1), .val (.int sp2), .val (.int sp3), .val (.int sp4), .val (.int (Int32.ofNat j1)), .val (.int (Int32.ofNat j2)), .val (.int (Int32.ofNat j3)), .val (.int (Int32.ofNat j4)), .val (.int (Int32.ofNat jq)), .val (.int on1), .val (.int zJ15_0), .unset, .unset, .unset, .unset, .unset] [(.int (1 : Int32))]))
            refine Go.of (fun _ q => XS.goto X16.here hx rfl (pc0 := 176) (pc' := 180) rfl (hb hby at_176) (by decide) (by decide) q) ?_
            show Go _ _ _ _ _ _ _ (T16.setTop (mkF m 180 #[.val (.int x1), .val (.int x2), .val (.int x3), .val (.int x4), .val (.int x5), .val (.int (Int32.ofNat k1)), .val (.int (Int32.ofNat k2)), .val (.int (Int32.ofNat k3)), .val (.int (Int32.ofNat k4)), .val (.int sp1), .val (.int sp2), .val (.int sp3), .val (.int sp4), .val (.int (Int32.ofNat j1)), .val (.int (Int32.ofNat j2)), .val (.int (Int32.ofNat j3)), .val (.int (Int32.ofNat j4)), .val (.int (Int32.ofNat jq)), .val (.int on1), .val (.int zJ15_0), .unset, .unset, .unset, .unset, .unset] [(.int (1 : Int32))]))
            exact J17 _ (by rw [if_neg c134, if_neg c139, if_neg c146, if_pos c158])
          · refine Go.of (fun _ q => XS.ifNo X16.here hx rfl (hb hby at_158) rfl ((if0 _ _).trans (feq c158).1) q) ?_
            show Go _ _ _ _ _ _ _ (T16.setTop (mkF m 161 #[.val (.int x1), .val (.int x2), .val (.int x3), .val (.int x4), .val (.int x5), .val (.int (Int32.ofNat k1)), .val (.int (Int32.ofNat k2)), .val (.int (Int32.ofNat k3)), .val (.int (Int32.ofNat k4)), .val (.int sp1), .val (.int sp2), .val (.int sp3), .val (.int sp4), .val (.int (Int32.ofNat j1)), .val (.int (Int32.ofNat j2)), .val (.int (Int32.ofNat j3)), .val (.int (Int32.ofNat j4)), .val (.int (Int32.ofNat jq)), .val (.int on1), .val (.int zJ15_0), .unset, .unset, .unset, .unset, .unset] []))
            refine Go.of (fun _ q => XS.iload X16.here hx rfl (hb hby at_161) rfl q) ?_
            show Go _ _ _ _ _ _ _ (T16.setTop (mkF m 163 #[.val (.int x1), .val (.int x2), .val (.int x3), .val (.int x4), .val (.int x5), .val (.int (Int32.ofNat k1)), .val (.int (Int32.ofNat k2)), .val (.int (Int32.ofNat k3)), .val (.int (Int32.ofNat k4)), .val (.int sp1), .val (.int sp2), .val (.int sp3), .val (.int sp4), .val (.int (Int32.ofNat j1)), .val (.int (Int32.ofNat j2)), .val (.int (Int32.ofNat j3)), .val (.int (Int32.ofNat j4)), .val (.int (Int32.ofNat jq)), .val (.int on1), .val (.int zJ15_0), .unset, .unset, .unset, .unset, .unset] [(.int (Int32.ofNat k2))]))
            refine Go.of (fun _ q => XS.iload X16.here hx rfl (hb hby at_163) rfl q) ?_
            show Go _ _ _ _ _ _ _ (T16.setTop (mkF m 165 #[.val (.int x1), .val (.int x2), .val (.int x3), .val (.int x4), .val (.int x5), .val (.int (Int32.ofNat k1)), .val (.int (Int32.ofNat k2)), .val (.int (Int32.ofNat k3)), .val (.int (Int32.ofNat k4)), .val (.int sp1), .val (.int sp2), .val (.int sp3), .val (.int sp4), .val (.int (Int32.ofNat j1)), .val (.int (Int32.ofNat j2)), .val (.int (Int32.ofNat j3)), .val (.int (Int32.ofNat j4)), .val (.int (Int32.ofNat jq)), .val (.int on1), .val (.int zJ15_0), .unset, .unset, .unset, .unset, .unset] [(.int (Int32.ofNat k3)), (.int (Int32.ofNat k2))]))
            by_cases c165 : (Int32.ofNat k2) = (Int32.ofNat k3)
            · refine Go.of (fun _ q => XS.icmpNo X16.here hx rfl (hb hby at_165) rfl (teq c165).2 q) ?_
              show Go _ _ _ _ _ _ _ (T16.setTop (mkF m 168 #[.val (.int x1), .val (.int x2), .val (.int x3), .val (.int x4), .val (.int x5), .val (.int (Int32.ofNat k1)), .val (.int (Int32.ofNat k2)), .val (.int (Int32.ofNat k3)), .val (.int (Int32.ofNat k4)), .val (.int sp1), .val (.int sp2), .val (.int sp3), .val (.int sp4), .val (.int (Int32.ofNat j1)), .val (.int (Int32.ofNat j2)), .val (.int (Int32.ofNat j3)), .val (.int (Int32.ofNat j4)), .val (.int (Int32.ofNat jq)), .val (.int on1), .val (.int zJ15_0), .unset, .unset, .unset, .unset, .unset] []))
              refine Go.of (fun _ q => XS.iload X16.here hx rfl (hb hby at_168) rfl q) ?_
              show Go _ _ _ _ _ _ _ (T16.setTop (mkF m 170 #[.val (.int x1), .val (.int x2), .val (.int x3), .val (.int x4), .val (.int x5), .val (.int (Int32.ofNat k1)), .val (.int (Int32.ofNat k2)), .val (.int (Int32.ofNat k3)), .val (.int (Int32.ofNat k4)), .val (.int sp1), .val (.int sp2), .val (.int sp3), .val (.int sp4), .val (.int (Int32.ofNat j1)), .val (.int (Int32.ofNat j2)), .val (.int (Int32.ofNat j3)), .val (.int (Int32.ofNat j4)), .val (.int (Int32.ofNat jq)), .val (.int on1), .val (.int zJ15_0), .unset, .unset, .unset, .unset, .unset] [(.int sp2)]))
              refine Go.of (fun _ q => XS.iload X16.here hx rfl (hb hby at_170) rfl q) ?_
              show Go _ _ _ _ _ _ _ (T16.setTop (mkF m 172 #[.val (.int x1), .val (.int x2), .val (.int x3), .val (.int x4), .val (.int x5), .val (.int (Int32.ofNat k1)), .val (.int (Int32.ofNat k2)), .val (.int (Int32.ofNat k3)), .val (.int (Int32.ofNat k4)), .val (.int sp1), .val (.int sp2), .val (.int sp3), .val (.int sp4), .val (.int (Int32.ofNat j1)), .val (.int (Int32.ofNat j2)), .val (.int (Int32.ofNat j3)), .val (.int (Int32.ofNat j4)), .val (.int (Int32.ofNat jq)), .val (.int on1), .val (.int zJ15_0), .unset, .unset, .unset, .unset, .unset] [(.int sp3), (.int sp2)]))
              by_cases c172 : sp2 = sp3
              · refine Go.of (fun _ q => XS.icmpYes X16.here hx rfl (pc0 := 172) (pc' := 179) rfl (hb hby at_172) rfl (teq c172).1 (by decide) (by decide) q) ?_
                show Go _ _ _ _ _ _ _ (T16.setTop (mkF m 179 #[.val (.int x1), .val (.int x2), .val (.int x3), .val (.int x4), .val (.int x5), .val (.int (Int32.ofNat k1)), .val (.int (Int32.ofNat k2)), .val (.int (Int32.ofNat k3)), .val (.int (Int32.ofNat k4)), .val (.int sp1), .val (.int sp2), .val (.int sp3), .val (.int sp4), .val (.int (Int32.ofNat j1)), .val (.int (Int32.ofNat j2)), .val (.int (Int32.ofNat j3)), .val (.int (Int32.ofNat j4)), .val (.int (Int32.ofNat jq)), .val (.int on1), .val (.int zJ15_0), .unset, .unset, .unset, .unset, .unset] []))
                refine Go.of (fun _ q => XS.iconst X16.here hx rfl (hb hby at_179) q) ?_
                show Go _ _ _ _ _ _ _ (T16.setTop (mkF m 180 #[.val (.int x1), .val (.int x2), .val (.int x3), .val (.int x4), .val (.int x5), .val (.int (Int32.ofNat k1)), .val (.int (Int32.ofNat k2)), .val (.int (Int32.ofNat k3)), .val (.int (Int32.ofNat k4)), .val (.int sp1), .val (.int sp2), .val (.int sp3), .val (.int sp4), .val (.int (Int32.ofNat j1)), .val (.int (Int32.ofNat j2)), .val (.int (Int32.ofNat j3)), .val (.int (Int32.ofNat j4)), .val (.int (Int32.ofNat jq)), .val (.int on1), .val (.int zJ15_0), .unset, .unset, .unset, .unset, .unset] [(.int (0 : Int32))]))
                exact J17 _ (by rw [if_neg c134, if_neg c139, if_neg c146, if_neg c158, if_pos c165, if_pos c172])
              · refine Go.of (fun _ q => XS.icmpNo X16.here hx rfl (hb hby at_172) rfl (feq c172).1 q) ?_
                show Go _ _ _ _ _ _ _ (T16.setTop (mkF m 175 #[.val (.int x1), .val (.int x2), .val (.int x3), .val (.int x4), .val (.int x5), .val (.int (Int32.ofNat k1)), .val (.int (Int32.ofNat k2)), .val (.int (Int32.ofNat k3)), .val (.int (Int32.ofNat k4)), .val (.int sp1), .val (.int sp2), .val (.int sp3), .val (.int sp4), .val (.int (Int32.ofNat j1)), .val (.int (Int32.ofNat j2)), .val (.int (Int32.ofNat j3)), .val (.int (Int32.ofNat j4)), .val (.int (Int32.ofNat jq)), .val (.int on1), .val (.int zJ15_0), .unset, .unset, .unset, .unset, .unset] []))
                refine Go.of (fun _ q => XS.iconst X16.here hx rfl (hb hby at_175) q) ?_
                show Go _ _ _ _ _ _ _ (T16.setTop (mkF m 176 #[.val (.int x1), .val (.int x2), .val (.int x3), .val (.int x4), .val (.int x5), .val (.int (Int32.ofNat k1)), .val (.int (Int32.ofNat k2)), .val (.int (Int32.ofNat k3)), .val (.int (Int32.ofNat k4)), .val (.int sp1), .val (.int sp2), .val (.int sp3), .val (.int sp4), .val (.int (Int32.ofNat j1)), .val (.int (Int32.ofNat j2)), .val (.int (Int32.ofNat j3)), .val (.int (Int32.ofNat j4)), .val (.int (Int32.ofNat jq)), .val (.int on1), .val (.int zJ15_0), .unset, .unset, .unset, .unset, .unset] [(.int (1 : Int32))]))
                refine Go.of (fun _ q => XS.goto X16.here hx rfl (pc0 := 176) (pc' := 180) rfl (hb hby at_176) (by decide) (by decide) q) ?_
                show Go _ _ _ _ _ _ _ (T16.setTop (mkF m 180 #[.val (.int x1), .val (.int x2), .val (.int x3), .val (.int x4), .val (.int x5), .val (.int (Int32.ofNat k1)), .val (.int (Int32.ofNat k2)), .val (.int (Int32.ofNat k3)), .val (.int (Int32.ofNat k4)), .val (.int sp1), .val (.int sp2), .val (.int sp3), .val (.int sp4), .val (.int (Int32.ofNat j1)), .val (.int (Int32.ofNat j2)), .val (.int (Int32.ofNat j3)), .val (.int (Int32.ofNat j4)), .val (.int (Int32.ofNat jq)), .val (.int on1), .val (.int zJ15_0), .unset, .unset, .unset, .unset, .unset] [(.int (1 : Int32))]))
                exact J17 _ (by rw [if_neg c134, if_neg c139, if_neg c146, if_neg c158, if_pos c165, if_neg c172])
            · refine Go.of (fun _ q => XS.icmpYes X16.here hx rfl (pc0 := 165) (pc' := 175) rfl (hb hby at_165) rfl (feq c165).2 (by decide) (by decide) q) ?_
              show Go _ _ _ _ _ _ _ (T16.setTop (mkF m 175 #[.val (.int x1), .val (.int x2), .val (.int x3), .val (.int x4), .val (.int x5), .val (.int (Int32.ofNat k1)), .val (.int (Int32.ofNat k2)), .val (.int (Int32.ofNat k3)), .val (.int (Int32.ofNat k4)), .val (.int sp1), .val (.int sp2), .val (.int sp3), .val (.int sp4), .val (.int (Int32.ofNat j1)), .val (.int (Int32.ofNat j2)), .val (.int (Int32.ofNat j3)), .val (.int (Int32.ofNat j4)), .val (.int (Int32.ofNat jq)), .val (.int on1), .val (.int zJ15_0), .unset, .unset, .unset, .unset, .unset] []))
              refine Go.of (fun _ q => XS.iconst X16.here hx rfl (hb hby at_175) q) ?_
              show Go _ _ _ _ _ _ _ (T16.setTop (mkF m 176 #[.val (.int x1), .val (.int x2), .val (.int x3), .val (.int x4), .val (.int x5), .val (.int (Int32.ofNat k1)), .val (.int (Int32.ofNat k2)), .val (.int (Int32.ofNat k3)), .val (.int (Int32.ofNat k4)), .val (.int sp1), .val (.int sp2), .val (.int sp3), .val (.int sp4), .val (.int (Int32.ofNat j1)), .val (.int (Int32.ofNat j2)), .val (.int (Int32.ofNat j3)), .val (.int (Int32.ofNat j4)), .val (.int (Int32.ofNat jq)), .val (.int on1), .val (.int zJ15_0), .unset, .unset, .unset, .unset, .unset] [(.int (1 : Int32))]))
              refine Go.of (fun _ q => XS.goto X16.here hx rfl (pc0 := 176) (pc' := 180) rfl (hb hby at_176) (by decide) (by decide) q) ?_
              show Go _ _ _ _ _ _ _ (T16.setTop (mkF m 180 #[.val (.int x1), .val (.int x2), .val (.int x3), .val (.int x4), .val (.int x5), .val (.int (Int32.ofNat k1)), .val (.int (Int32.ofNat k2)), .val (.int (Int32.ofNat k3)), .val (.int (Int32.ofNat k4)), .val (.int sp1), .val (.int sp2), .val (.int sp3), .val (.int sp4), .val (.int (Int32.ofNat j1)), .val (.int (Int32.ofNat j2)), .val (.int (Int32.ofNat j3)), .val (.int (Int32.ofNat j4)), .val (.int (Int32.ofNat jq)), .val (.int on1), .val (.int zJ15_0), .unset, .unset, .unset, .unset, .unset] [(.int (1 : Int32))]))
              exact J17 _ (by rw [if_neg c134, if_neg c139, if_neg c146, if_neg c158, if_neg c165])
  by_cases c101 : (if (((x2.toUInt32 >>> ((24 : Int32) &&& 31).toUInt32).toInt32) &&& (1 : Int32)) = (0 : Int32) then (0 : Int32) else (1 : Int32)) = (0 : Int32)
  · refine Go.of (fun _ q => XS.ifYes X14.here hx rfl (pc0 := 101) (pc' := 127) rfl (hb hby at_101) rfl ((if0 _ _).trans (teq c101).1) (by decide) (by decide) q) ?_
    show Go _ _ _ _ _ _ _ (T14.setTop (mkF m 127 #[.val (.int x1), .val (.int x2), .val (.int x3), .val (.int x4), .val (.int x5), .val (.int (Int32.ofNat k1)), .val (.int (Int32.ofNat k2)), .val (.int (Int32.ofNat k3)), .val (.int (Int32.ofNat k4)), .val (.int sp1), .val (.int sp2), .val (.int sp3), .val (.int sp4), .val (.int (Int32.ofNat j1)), .val (.int (Int32.ofNat j2)), .val (.int (Int32.ofNat j3)), .val (.int (Int32.ofNat j4)), .val (.int (Int32.ofNat jq)), .val (.int on1), .unset, .unset, .unset, .unset, .unset, .unset] []))
    refine Go.of (fun _ q => XS.iconst X14.here hx rfl (hb hby at_127) q) ?_
    show Go _ _ _ _ _ _ _ (T14.setTop (mkF m 128 #[.val (.int x1), .val (.int x2), .val (.int x3), .val (.int x4), .val (.int x5), .val (.int (Int32.ofNat k1)), .val (.int (Int32.ofNat k2)), .val (.int (Int32.ofNat k3)), .val (.int (Int32.ofNat k4)), .val (.int sp1), .val (.int sp2), .val (.int sp3), .val (.int sp4), .val (.int (Int32.ofNat j1)), .val (.int (Int32.ofNat j2)), .val (.int (Int32.ofNat j3)), .val (.int (Int32.ofNat j4)), .val (.int (Int32.ofNat jq)), .val (.int on1), .unset, .unset, .unset, .unset, .unset, .unset] [(.int (0 : Int32))]))
    exact J15 _ (by rw [if_pos c101])
  · refine Go.of (fun _ q => XS.ifNo X14.here hx rfl (hb hby at_101) rfl ((if0 _ _).trans (feq c101).1) q) ?_
    show Go _ _ _ _ _ _ _ (T14.setTop (mkF m 104 #[.val (.int x1), .val (.int x2), .val (.int x3), .val (.int x4), .val (.int x5), .val (.int (Int32.ofNat k1)), .val (.int (Int32.ofNat k2)), .val (.int (Int32.ofNat k3)), .val (.int (Int32.ofNat k4)), .val (.int sp1), .val (.int sp2), .val (.int sp3), .val (.int sp4), .val (.int (Int32.ofNat j1)), .val (.int (Int32.ofNat j2)), .val (.int (Int32.ofNat j3)), .val (.int (Int32.ofNat j4)), .val (.int (Int32.ofNat jq)), .val (.int on1), .unset, .unset, .unset, .unset, .unset, .unset] []))
    refine Go.of (fun _ q => XS.iload X14.here hx rfl (hb hby at_104) rfl q) ?_
    show Go _ _ _ _ _ _ _ (T14.setTop (mkF m 106 #[.val (.int x1), .val (.int x2), .val (.int x3), .val (.int x4), .val (.int x5), .val (.int (Int32.ofNat k1)), .val (.int (Int32.ofNat k2)), .val (.int (Int32.ofNat k3)), .val (.int (Int32.ofNat k4)), .val (.int sp1), .val (.int sp2), .val (.int sp3), .val (.int sp4), .val (.int (Int32.ofNat j1)), .val (.int (Int32.ofNat j2)), .val (.int (Int32.ofNat j3)), .val (.int (Int32.ofNat j4)), .val (.int (Int32.ofNat jq)), .val (.int on1), .unset, .unset, .unset, .unset, .unset, .unset] [(.int on1)]))
    by_cases c106 : on1 = (0 : Int32)
    · refine Go.of (fun _ q => XS.ifYes X14.here hx rfl (pc0 := 106) (pc' := 123) rfl (hb hby at_106) rfl ((if0 _ _).trans (teq c106).1) (by decide) (by decide) q) ?_
      show Go _ _ _ _ _ _ _ (T14.setTop (mkF m 123 #[.val (.int x1), .val (.int x2), .val (.int x3), .val (.int x4), .val (.int x5), .val (.int (Int32.ofNat k1)), .val (.int (Int32.ofNat k2)), .val (.int (Int32.ofNat k3)), .val (.int (Int32.ofNat k4)), .val (.int sp1), .val (.int sp2), .val (.int sp3), .val (.int sp4), .val (.int (Int32.ofNat j1)), .val (.int (Int32.ofNat j2)), .val (.int (Int32.ofNat j3)), .val (.int (Int32.ofNat j4)), .val (.int (Int32.ofNat jq)), .val (.int on1), .unset, .unset, .unset, .unset, .unset, .unset] []))
      refine Go.of (fun _ q => XS.iconst X14.here hx rfl (hb hby at_123) q) ?_
      show Go _ _ _ _ _ _ _ (T14.setTop (mkF m 124 #[.val (.int x1), .val (.int x2), .val (.int x3), .val (.int x4), .val (.int x5), .val (.int (Int32.ofNat k1)), .val (.int (Int32.ofNat k2)), .val (.int (Int32.ofNat k3)), .val (.int (Int32.ofNat k4)), .val (.int sp1), .val (.int sp2), .val (.int sp3), .val (.int sp4), .val (.int (Int32.ofNat j1)), .val (.int (Int32.ofNat j2)), .val (.int (Int32.ofNat j3)), .val (.int (Int32.ofNat j4)), .val (.int (Int32.ofNat jq)), .val (.int on1), .unset, .unset, .unset, .unset, .unset, .unset] [(.int (1 : Int32))]))
      refine Go.of (fun _ q => XS.goto X14.here hx rfl (pc0 := 124) (pc' := 128) rfl (hb hby at_124) (by decide) (by decide) q) ?_
      show Go _ _ _ _ _ _ _ (T14.setTop (mkF m 128 #[.val (.int x1), .val (.int x2), .val (.int x3), .val (.int x4), .val (.int x5), .val (.int (Int32.ofNat k1)), .val (.int (Int32.ofNat k2)), .val (.int (Int32.ofNat k3)), .val (.int (Int32.ofNat k4)), .val (.int sp1), .val (.int sp2), .val (.int sp3), .val (.int sp4), .val (.int (Int32.ofNat j1)), .val (.int (Int32.ofNat j2)), .val (.int (Int32.ofNat j3)), .val (.int (Int32.ofNat j4)), .val (.int (Int32.ofNat jq)), .val (.int on1), .unset, .unset, .unset, .unset, .unset, .unset] [(.int (1 : Int32))]))
      exact J15 _ (by rw [if_neg c101, if_pos c106])
    · refine Go.of (fun _ q => XS.ifNo X14.here hx rfl (hb hby at_106) rfl ((if0 _ _).trans (feq c106).1) q) ?_
      show Go _ _ _ _ _ _ _ (T14.setTop (mkF m 109 #[.val (.int x1), .val (.int x2), .val (.int x3), .val (.int x4), .val (.int x5), .val (.int (Int32.ofNat k1)), .val (.int (Int32.ofNat k2)), .val (.int (Int32.ofNat k3)), .val (.int (Int32.ofNat k4)), .val (.int sp1), .val (.int sp2), .val (.int sp3), .val (.int sp4), .val (.int (Int32.ofNat j1)), .val (.int (Int32.ofNat j2)), .val (.int (Int32.ofNat j3)), .val (.int (Int32.ofNat j4)), .val (.int (Int32.ofNat jq)), .val (.int on1), .unset, .unset, .unset, .unset, .unset, .unset] []))
      refine Go.of (fun _ q => XS.iload X14.here hx rfl (hb hby at_109) rfl q) ?_
      show Go _ _ _ _ _ _ _ (T14.setTop (mkF m 111 #[.val (.int x1), .val (.int x2), .val (.int x3), .val (.int x4), .val (.int x5), .val (.int (Int32.ofNat k1)), .val (.int (Int32.ofNat k2)), .val (.int (Int32.ofNat k3)), .val (.int (Int32.ofNat k4)), .val (.int sp1), .val (.int sp2), .val (.int sp3), .val (.int sp4), .val (.int (Int32.ofNat j1)), .val (.int (Int32.ofNat j2)), .val (.int (Int32.ofNat j3)), .val (.int (Int32.ofNat j4)), .val (.int (Int32.ofNat jq)), .val (.int on1), .unset, .unset, .unset, .unset, .unset, .unset] [(.int (Int32.ofNat k1))]))
      refine Go.of (fun _ q => XS.iload X14.here hx rfl (hb hby at_111) rfl q) ?_
      show Go _ _ _ _ _ _ _ (T14.setTop (mkF m 113 #[.val (.int x1), .val (.int x2), .val (.int x3), .val (.int x4), .val (.int x5), .val (.int (Int32.ofNat k1)), .val (.int (Int32.ofNat k2)), .val (.int (Int32.ofNat k3)), .val (.int (Int32.ofNat k4)), .val (.int sp1), .val (.int sp2), .val (.int sp3), .val (.int sp4), .val (.int (Int32.ofNat j1)), .val (.int (Int32.ofNat j2)), .val (.int (Int32.ofNat j3)), .val (.int (Int32.ofNat j4)), .val (.int (Int32.ofNat jq)), .val (.int on1), .unset, .unset, .unset, .unset, .unset, .unset] [(.int (Int32.ofNat k2)), (.int (Int32.ofNat k1))]))
      by_cases c113 : (Int32.ofNat k1) = (Int32.ofNat k2)
      · refine Go.of (fun _ q => XS.icmpNo X14.here hx rfl (hb hby at_113) rfl (teq c113).2 q) ?_
        show Go _ _ _ _ _ _ _ (T14.setTop (mkF m 116 #[.val (.int x1), .val (.int x2), .val (.int x3), .val (.int x4), .val (.int x5), .val (.int (Int32.ofNat k1)), .val (.int (Int32.ofNat k2)), .val (.int (Int32.ofNat k3)), .val (.int (Int32.ofNat k4)), .val (.int sp1), .val (.int sp2), .val (.int sp3), .val (.int sp4), .val (.int (Int32.ofNat j1)), .val (.int (Int32.ofNat j2)), .val (.int (Int32.ofNat j3)), .val (.int (Int32.ofNat j4)), .val (.int (Int32.ofNat jq)), .val (.int on1), .unset, .unset, .unset, .unset, .unset, .unset] []))
        refine Go.of (fun _ q => XS.iload X14.here hx rfl (hb hby at_116) rfl q) ?_
        show Go _ _ _ _ _ _ _ (T14.setTop (mkF m 118 #[.val (.int x1), .val (.int x2), .val (.int x3), .val (.int x4), .val (.int x5), .val (.int (Int32.ofNat k1)), .val (.int (Int32.ofNat k2)), .val (.int (Int32.ofNat k3)), .val (.int (Int32.ofNat k4)), .val (.int sp1), .val (.int sp2), .val (.int sp3), .val (.int sp4), .val (.int (Int32.ofNat j1)), .val (.int (Int32.ofNat j2)), .val (.int (Int32.ofNat j3)), .val (.int (Int32.ofNat j4)), .val (.int (Int32.ofNat jq)), .val (.int on1), .unset, .unset, .unset, .unset, .unset, .unset] [(.int sp1)]))
        refine Go.of (fun _ q => XS.iload X14.here hx rfl (hb hby at_118) rfl q) ?_
        show Go _ _ _ _ _ _ _ (T14.setTop (mkF m 120 #[.val (.int x1), .val (.int x2), .val (.int x3), .val (.int x4), .val (.int x5), .val (.int (Int32.ofNat k1)), .val (.int (Int32.ofNat k2)), .val (.int (Int32.ofNat k3)), .val (.int (Int32.ofNat k4)), .val (.int sp1), .val (.int sp2), .val (.int sp3), .val (.int sp4), .val (.int (Int32.ofNat j1)), .val (.int (Int32.ofNat j2)), .val (.int (Int32.ofNat j3)), .val (.int (Int32.ofNat j4)), .val (.int (Int32.ofNat jq)), .val (.int on1), .unset, .unset, .unset, .unset, .unset, .unset] [(.int sp2), (.int sp1)]))
        by_cases c120 : sp1 = sp2
        · refine Go.of (fun _ q => XS.icmpYes X14.here hx rfl (pc0 := 120) (pc' := 127) rfl (hb hby at_120) rfl (teq c120).1 (by decide) (by decide) q) ?_
          show Go _ _ _ _ _ _ _ (T14.setTop (mkF m 127 #[.val (.int x1), .val (.int x2), .val (.int x3), .val (.int x4), .val (.int x5), .val (.int (Int32.ofNat k1)), .val (.int (Int32.ofNat k2)), .val (.int (Int32.ofNat k3)), .val (.int (Int32.ofNat k4)), .val (.int sp1), .val (.int sp2), .val (.int sp3), .val (.int sp4), .val (.int (Int32.ofNat j1)), .val (.int (Int32.ofNat j2)), .val (.int (Int32.ofNat j3)), .val (.int (Int32.ofNat j4)), .val (.int (Int32.ofNat jq)), .val (.int on1), .unset, .unset, .unset, .unset, .unset, .unset] []))
          refine Go.of (fun _ q => XS.iconst X14.here hx rfl (hb hby at_127) q) ?_
          show Go _ _ _ _ _ _ _ (T14.setTop (mkF m 128 #[.val (.int x1), .val (.int x2), .val (.int x3), .val (.int x4), .val (.int x5), .val (.int (Int32.ofNat k1)), .val (.int (Int32.ofNat k2)), .val (.int (Int32.ofNat k3)), .val (.int (Int32.ofNat k4)), .val (.int sp1), .val (.int sp2), .val (.int sp3), .val (.int sp4), .val (.int (Int32.ofNat j1)), .val (.int (Int32.ofNat j2)), .val (.int (Int32.ofNat j3)), .val (.int (Int32.ofNat j4)), .val (.int (Int32.ofNat jq)), .val (.int on1), .unset, .unset, .unset, .unset, .unset, .unset] [(.int (0 : Int32))]))
          exact J15 _ (by rw [if_neg c101, if_neg c106, if_pos c113, if_pos c120])
        · refine Go.of (fun _ q => XS.icmpNo X14.here hx rfl (hb hby at_120) rfl (feq c120).1 q) ?_
          show Go _ _ _ _ _ _ _ (T14.setTop (mkF m 123 #[.val (.int x1), .val (.int x2), .val (.int x3), .val (.int x4), .val (.int x5), .val (.int (Int32.ofNat k1)), .val (.int (Int32.ofNat k2)), .val (.int (Int32.ofNat k3)), .val (.int (Int32.ofNat k4)), .val (.int sp1), .val (.int sp2), .val (.int sp3), .val (.int sp4), .val (.int (Int32.ofNat j1)), .val (.int (Int32.ofNat j2)), .val (.int (Int32.ofNat j3)), .val (.int (Int32.ofNat j4)), .val (.int (Int32.ofNat jq)), .val (.int on1), .unset, .unset, .unset, .unset, .unset, .unset] []))
          refine Go.of (fun _ q => XS.iconst X14.here hx rfl (hb hby at_123) q) ?_
          show Go _ _ _ _ _ _ _ (T14.setTop (mkF m 124 #[.val (.int x1), .val (.int x2), .val (.int x3), .val (.int x4), .val (.int x5), .val (.int (Int32.ofNat k1)), .val (.int (Int32.ofNat k2)), .val (.int (Int32.ofNat k3)), .val (.int (Int32.ofNat k4)), .val (.int sp1), .val (.int sp2), .val (.int sp3), .val (.int sp4), .val (.int (Int32.ofNat j1)), .val (.int (Int32.ofNat j2)), .val (.int (Int32.ofNat j3)), .val (.int (Int32.ofNat j4)), .val (.int (Int32.ofNat jq)), .val (.int on1), .unset, .unset, .unset, .unset, .unset, .unset] [(.int (1 : Int32))]))
          refine Go.of (fun _ q => XS.goto X14.here hx rfl (pc0 := 124) (pc' := 128) rfl (hb hby at_124) (by decide) (by decide) q) ?_
          show Go _ _ _ _ _ _ _ (T14.setTop (mkF m 128 #[.val (.int x1), .val (.int x2), .val (.int x3), .val (.int x4), .val (.int x5), .val (.int (Int32.ofNat k1)), .val (.int (Int32.ofNat k2)), .val (.int (Int32.ofNat k3)), .val (.int (Int32.ofNat k4)), .val (.int sp1), .val (.int sp2), .val (.int sp3), .val (.int sp4), .val (.int (Int32.ofNat j1)), .val (.int (Int32.ofNat j2)), .val (.int (Int32.ofNat j3)), .val (.int (Int32.ofNat j4)), .val (.int (Int32.ofNat jq)), .val (.int on1), .unset, .unset, .unset, .unset, .unset, .unset] [(.int (1 : Int32))]))
          exact J15 _ (by rw [if_neg c101, if_neg c106, if_pos c113, if_neg c120])
      · refine Go.of (fun _ q => XS.icmpYes X14.here hx rfl (pc0 := 113) (pc' := 123) rfl (hb hby at_113) rfl (feq c113).2 (by decide) (by decide) q) ?_
        show Go _ _ _ _ _ _ _ (T14.setTop (mkF m 123 #[.val (.int x1), .val (.int x2), .val (.int x3), .val (.int x4), .val (.int x5), .val (.int (Int32.ofNat k1)), .val (.int (Int32.ofNat k2)), .val (.int (Int32.ofNat k3)), .val (.int (Int32.ofNat k4)), .val (.int sp1), .val (.int sp2), .val (.int sp3), .val (.int sp4), .val (.int (Int32.ofNat j1)), .val (.int (Int32.ofNat j2)), .val (.int (Int32.ofNat j3)), .val (.int (Int32.ofNat j4)), .val (.int (Int32.ofNat jq)), .val (.int on1), .unset, .unset, .unset, .unset, .unset, .unset] []))
        refine Go.of (fun _ q => XS.iconst X14.here hx rfl (hb hby at_123) q) ?_
        show Go _ _ _ _ _ _ _ (T14.setTop (mkF m 124 #[.val (.int x1), .val (.int x2), .val (.int x3), .val (.int x4), .val (.int x5), .val (.int (Int32.ofNat k1)), .val (.int (Int32.ofNat k2)), .val (.int (Int32.ofNat k3)), .val (.int (Int32.ofNat k4)), .val (.int sp1), .val (.int sp2), .val (.int sp3), .val (.int sp4), .val (.int (Int32.ofNat j1)), .val (.int (Int32.ofNat j2)), .val (.int (Int32.ofNat j3)), .val (.int (Int32.ofNat j4)), .val (.int (Int32.ofNat jq)), .val (.int on1), .unset, .unset, .unset, .unset, .unset, .unset] [(.int (1 : Int32))]))
        refine Go.of (fun _ q => XS.goto X14.here hx rfl (pc0 := 124) (pc' := 128) rfl (hb hby at_124) (by decide) (by decide) q) ?_
        show Go _ _ _ _ _ _ _ (T14.setTop (mkF m 128 #[.val (.int x1), .val (.int x2), .val (.int x3), .val (.int x4), .val (.int x5), .val (.int (Int32.ofNat k1)), .val (.int (Int32.ofNat k2)), .val (.int (Int32.ofNat k3)), .val (.int (Int32.ofNat k4)), .val (.int sp1), .val (.int sp2), .val (.int sp3), .val (.int sp4), .val (.int (Int32.ofNat j1)), .val (.int (Int32.ofNat j2)), .val (.int (Int32.ofNat j3)), .val (.int (Int32.ofNat j4)), .val (.int (Int32.ofNat jq)), .val (.int on1), .unset, .unset, .unset, .unset, .unset, .unset] [(.int (1 : Int32))]))
        exact J15 _ (by rw [if_neg c101, if_neg c106, if_neg c113])
set_option maxRecDepth 65536 in
set_option maxHeartbeats 40000000 in
theorem comes_1 {Post : Tables → Env → Array Value → State → Outcome → State → Prop} (hpost : ∀ tb e args s v u, (limb_1_1.after args s (.returned v) u = true ∧ limb_1_2.after args s (.returned v) u = true ∧ True) → FrameEnd s (.returned v) u (Jvm.fieldLocs frame_1_writes args s ++ Jvm.arrayLocs frame_1_arrays args s ++ Jvm.staticLocs frame_1_statics s) 24 256 → Post tb e args s (.returned v) u) :
    ArmFor flags0 classFile x code maxLocals ret World_1 tables_1 room_1 Calls_1 rest_1 Pre_1 Post := by
  intro l hfl _ _ p e ha hc hk s m args below hf hA hF happ hP
  obtain ⟨hcalls, hrest, hpre⟩ := hP
  obtain ⟨-, -, -, hnamed, -, -, -, hat⟩ := (Spec.applies_iff hf).mp happ
  obtain ⟨hg, hn⟩ := and_e (Cond.before_iff.mp (show (Jvm.Cond.and given_1 narrow_1).before args s = true from hpre))
  obtain ⟨g1, g2⟩ := and_e hg
  obtain ⟨g3, g4⟩ := and_e g2
  obtain ⟨g5, g6⟩ := and_e g4
  obtain ⟨g7, g8⟩ := and_e g6
  obtain ⟨g9, g10⟩ := and_e g8
  obtain ⟨w0, w1, w2, w3, w4, rfl⟩ : ∃ w0 w1 w2 w3 w4 : Value, args = #[w0, w1, w2, w3, w4] := by
    have hs : args.size = 5 := by simpa [Cond.value, given_1] using g1
    obtain ⟨L⟩ := args
    match L, hs with
    | [w0, w1, w2, w3, w4], _ => exact ⟨w0, w1, w2, w3, w4, rfl⟩
  have hw := fun d (hd : d ∈ tables_1) => atoms_spec (ws := Jvm.Cond.code x code maxLocals ret :: tables_1) hat d (List.mem_cons_of_mem _ hd)
  have hfit : Fit s := fun {y c} hc i hi => by
    obtain ⟨ha, rfl⟩ := Array.getElem?_eq_some_iff.mp hc
    have q := List.all_eq_true.mp ((Array.all_eq_true_iff_forall_mem.mp hF) _ (Array.getElem_mem ha)) i (List.mem_range.mpr hi)
    simpa [Array.getElem?_eq_getElem hi] using q
  obtain ⟨i0, ei0⟩ := is_v g3
  obtain rfl : w0 = (.int i0) := Option.some.inj ei0
  obtain ⟨i1, ei1⟩ := is_v g5
  obtain rfl : w1 = (.int i1) := Option.some.inj ei1
  obtain ⟨i2, ei2⟩ := is_v g7
  obtain rfl : w2 = (.int i2) := Option.some.inj ei2
  obtain ⟨i3, ei3⟩ := is_v g9
  obtain rfl : w3 = (.int i3) := Option.some.inj ei3
  obtain ⟨i4, ei4⟩ := is_v g10
  obtain rfl : w4 = (.int i4) := Option.some.inj ei4
  obtain ⟨hn1a, hn1b⟩ := and_e hn
  obtain ⟨hn2a, hn2b⟩ := and_e hn1b
  obtain ⟨a_MAMMALS, ev_MAMMALS⟩ := exa_v hn2a
  have S_MAMMALS := Sta.start ev_MAMMALS (Or.inr ⟨(hw _ (List.mem_of_getElem? (i := 39) rfl)), (hw _ (List.mem_of_getElem? (i := 40) rfl))⟩)
  have E_MAMMALS := Exa.start ev_MAMMALS hn2a
  obtain ⟨hn3a, hn3b⟩ := and_e hn2b
  obtain ⟨a_REPTILES, ev_REPTILES⟩ := exa_v hn3a
  have S_REPTILES := Sta.start ev_REPTILES (Or.inr ⟨(hw _ (List.mem_of_getElem? (i := 39) rfl)), (hw _ (List.mem_of_getElem? (i := 47) rfl))⟩)
  have E_REPTILES := Exa.start ev_REPTILES hn3a
  obtain ⟨hn4a, hn4b⟩ := and_e hn3b
  obtain ⟨a_INSECTS, ev_INSECTS⟩ := exa_v hn4a
  have S_INSECTS := Sta.start ev_INSECTS (Or.inr ⟨(hw _ (List.mem_of_getElem? (i := 39) rfl)), (hw _ (List.mem_of_getElem? (i := 49) rfl))⟩)
  have E_INSECTS := Exa.start ev_INSECTS hn4a
  obtain ⟨hn5a, hn5b⟩ := and_e hn4b
  obtain ⟨a_INITIATIVE, ev_INITIATIVE⟩ := exa_v hn5a
  have S_INITIATIVE := Sta.start ev_INITIATIVE (Or.inr ⟨(hw _ (List.mem_of_getElem? (i := 54) rfl)), (hw _ (List.mem_of_getElem? (i := 55) rfl))⟩)
  have E_INITIATIVE := Exa.start ev_INITIATIVE hn5a
  obtain ⟨hn6a, hn6b⟩ := and_e hn5b
  obtain ⟨a_AMPHIBIANS, ev_AMPHIBIANS⟩ := exa_v hn6a
  have S_AMPHIBIANS := Sta.start ev_AMPHIBIANS (Or.inr ⟨(hw _ (List.mem_of_getElem? (i := 39) rfl)), (hw _ (List.mem_of_getElem? (i := 57) rfl))⟩)
  have E_AMPHIBIANS := Exa.start ev_AMPHIBIANS hn6a
  obtain ⟨hn7a, hn7b⟩ := and_e hn6b
  obtain ⟨hn8a, hn8b⟩ := and_e hn7b
  obtain ⟨hn9a, hn9b⟩ := and_e hn8b
  have F_INITIATIVE_ordinal := Fld.start ((fld_at ev_INITIATIVE).symm.trans (eqi_v hn9a))
  obtain ⟨hn10a, hn10b⟩ := and_e hn9b
  have F_INITIATIVE_eyeballSpaces := Fld.start ((fld_at ev_INITIATIVE).symm.trans (eqi_v hn10a))
  obtain ⟨hn11a, hn11b⟩ := and_e hn10b
  obtain ⟨a_ABUNDANCE, ev_ABUNDANCE⟩ := exa_v hn11a
  have S_ABUNDANCE := Sta.start ev_ABUNDANCE (Or.inr ⟨(hw _ (List.mem_of_getElem? (i := 54) rfl)), (hw _ (List.mem_of_getElem? (i := 101) rfl))⟩)
  have E_ABUNDANCE := Exa.start ev_ABUNDANCE hn11a
  obtain ⟨hn12a, hn12b⟩ := and_e hn11b
  have F_ABUNDANCE_ordinal := Fld.start ((fld_at ev_ABUNDANCE).symm.trans (eqi_v hn12a))
  obtain ⟨hn13a, hn13b⟩ := and_e hn12b
  have F_ABUNDANCE_eyeballSpaces := Fld.start ((fld_at ev_ABUNDANCE).symm.trans (eqi_v hn13a))
  obtain ⟨hn14a, hn14b⟩ := and_e hn13b
  have F_AMPHIBIANS_ordinal := Fld.start ((fld_at ev_AMPHIBIANS).symm.trans (eqi_v hn14a))
  obtain ⟨hn15a, hn15b⟩ := and_e hn14b
  have F_INSECTS_ordinal := Fld.start ((fld_at ev_INSECTS).symm.trans (eqi_v hn15a))
  obtain ⟨hn16a, hn16b⟩ := and_e hn15b
  obtain ⟨a_MIGRATION, ev_MIGRATION⟩ := exa_v hn16a
  have S_MIGRATION := Sta.start ev_MIGRATION (Or.inr ⟨(hw _ (List.mem_of_getElem? (i := 54) rfl)), (hw _ (List.mem_of_getElem? (i := 103) rfl))⟩)
  have E_MIGRATION := Exa.start ev_MIGRATION hn16a
  obtain ⟨hn17a, hn17b⟩ := and_e hn16b
  have F_MIGRATION_ordinal := Fld.start ((fld_at ev_MIGRATION).symm.trans (eqi_v hn17a))
  obtain ⟨hn18a, hn18b⟩ := and_e hn17b
  have F_MIGRATION_eyeballSpaces := Fld.start ((fld_at ev_MIGRATION).symm.trans (eqi_v hn18a))
  obtain ⟨hn19a, hn19b⟩ := and_e hn18b
  obtain ⟨a_WASTELAND, ev_WASTELAND⟩ := exa_v hn19a
  have S_WASTELAND := Sta.start ev_WASTELAND (Or.inr ⟨(hw _ (List.mem_of_getElem? (i := 54) rfl)), (hw _ (List.mem_of_getElem? (i := 105) rfl))⟩)
  have E_WASTELAND := Exa.start ev_WASTELAND hn19a
  obtain ⟨hn20a, hn20b⟩ := and_e hn19b
  have F_WASTELAND_ordinal := Fld.start ((fld_at ev_WASTELAND).symm.trans (eqi_v hn20a))
  obtain ⟨hn21a, hn21b⟩ := and_e hn20b
  have F_WASTELAND_eyeballSpaces := Fld.start ((fld_at ev_WASTELAND).symm.trans (eqi_v hn21a))
  obtain ⟨hn22a, hn22b⟩ := and_e hn21b
  obtain ⟨a_WANDERLUST, ev_WANDERLUST⟩ := exa_v hn22a
  have S_WANDERLUST := Sta.start ev_WANDERLUST (Or.inr ⟨(hw _ (List.mem_of_getElem? (i := 54) rfl)), (hw _ (List.mem_of_getElem? (i := 107) rfl))⟩)
  have E_WANDERLUST := Exa.start ev_WANDERLUST hn22a
  obtain ⟨hn23a, hn23b⟩ := and_e hn22b
  have F_WANDERLUST_ordinal := Fld.start ((fld_at ev_WANDERLUST).symm.trans (eqi_v hn23a))
  obtain ⟨hn24a, hn24b⟩ := and_e hn23b
  have F_WANDERLUST_eyeballSpaces := Fld.start ((fld_at ev_WANDERLUST).symm.trans (eqi_v hn24a))
  obtain ⟨hn25a, hn25b⟩ := and_e hn24b
  have F_MAMMALS_ordinal := Fld.start ((fld_at ev_MAMMALS).symm.trans (eqi_v hn25a))
  obtain ⟨hn26a, hn26b⟩ := and_e hn25b
  obtain ⟨a_BIRDS, ev_BIRDS⟩ := exa_v hn26a
  have S_BIRDS := Sta.start ev_BIRDS (Or.inr ⟨(hw _ (List.mem_of_getElem? (i := 39) rfl)), (hw _ (List.mem_of_getElem? (i := 109) rfl))⟩)
  have E_BIRDS := Exa.start ev_BIRDS hn26a
  obtain ⟨hn27a, hn27b⟩ := and_e hn26b
  have F_BIRDS_ordinal := Fld.start ((fld_at ev_BIRDS).symm.trans (eqi_v hn27a))
  obtain ⟨hn28a, hn28b⟩ := and_e hn27b
  obtain ⟨a_SPECIATION, ev_SPECIATION⟩ := exa_v hn28a
  have S_SPECIATION := Sta.start ev_SPECIATION (Or.inr ⟨(hw _ (List.mem_of_getElem? (i := 54) rfl)), (hw _ (List.mem_of_getElem? (i := 111) rfl))⟩)
  have E_SPECIATION := Exa.start ev_SPECIATION hn28a
  obtain ⟨hn29a, hn29b⟩ := and_e hn28b
  have F_SPECIATION_ordinal := Fld.start ((fld_at ev_SPECIATION).symm.trans (eqi_v hn29a))
  obtain ⟨hn30a, hn30b⟩ := and_e hn29b
  have F_SPECIATION_eyeballSpaces := Fld.start ((fld_at ev_SPECIATION).symm.trans (eqi_v hn30a))
  obtain ⟨hn31a, hn31b⟩ := and_e hn30b
  have F_REPTILES_ordinal := Fld.start ((fld_at ev_REPTILES).symm.trans (eqi_v hn31a))
  obtain ⟨hn32a, hn32b⟩ := and_e hn31b
  obtain ⟨a_ARACHNIDS, ev_ARACHNIDS⟩ := exa_v hn32a
  have S_ARACHNIDS := Sta.start ev_ARACHNIDS (Or.inr ⟨(hw _ (List.mem_of_getElem? (i := 39) rfl)), (hw _ (List.mem_of_getElem? (i := 113) rfl))⟩)
  have E_ARACHNIDS := Exa.start ev_ARACHNIDS hn32a
  obtain ⟨hn33a, hn33b⟩ := and_e hn32b
  have F_ARACHNIDS_ordinal := Fld.start ((fld_at ev_ARACHNIDS).symm.trans (eqi_v hn33a))
  obtain ⟨hn34a, hn34b⟩ := and_e hn33b
  obtain ⟨a_COMPETITION, ev_COMPETITION⟩ := exa_v hn34a
  have S_COMPETITION := Sta.start ev_COMPETITION (Or.inr ⟨(hw _ (List.mem_of_getElem? (i := 54) rfl)), (hw _ (List.mem_of_getElem? (i := 115) rfl))⟩)
  have E_COMPETITION := Exa.start ev_COMPETITION hn34a
  obtain ⟨hn35a, hn35b⟩ := and_e hn34b
  have F_COMPETITION_ordinal := Fld.start ((fld_at ev_COMPETITION).symm.trans (eqi_v hn35a))
  obtain ⟨hn36a, hn36b⟩ := and_e hn35b
  have F_COMPETITION_eyeballSpaces := Fld.start ((fld_at ev_COMPETITION).symm.trans (eqi_v hn36a))
  obtain ⟨hn37a, hn37b⟩ := and_e hn36b
  obtain ⟨a_ADAPTATION, ev_ADAPTATION⟩ := exa_v hn37a
  have S_ADAPTATION := Sta.start ev_ADAPTATION (Or.inr ⟨(hw _ (List.mem_of_getElem? (i := 54) rfl)), (hw _ (List.mem_of_getElem? (i := 117) rfl))⟩)
  have E_ADAPTATION := Exa.start ev_ADAPTATION hn37a
  obtain ⟨hn38a, hn38b⟩ := and_e hn37b
  have F_ADAPTATION_ordinal := Fld.start ((fld_at ev_ADAPTATION).symm.trans (eqi_v hn38a))
  obtain ⟨hn39a, hn39b⟩ := and_e hn38b
  have F_ADAPTATION_eyeballSpaces := Fld.start ((fld_at ev_ADAPTATION).symm.trans (eqi_v hn39a))
  obtain ⟨hn40a, hn40b⟩ := and_e hn39b
  obtain ⟨a_DEPLETION, ev_DEPLETION⟩ := exa_v hn40a
  have S_DEPLETION := Sta.start ev_DEPLETION (Or.inr ⟨(hw _ (List.mem_of_getElem? (i := 54) rfl)), (hw _ (List.mem_of_getElem? (i := 119) rfl))⟩)
  have E_DEPLETION := Exa.start ev_DEPLETION hn40a
  obtain ⟨hn41a, hn41b⟩ := and_e hn40b
  have F_DEPLETION_ordinal := Fld.start ((fld_at ev_DEPLETION).symm.trans (eqi_v hn41a))
  obtain ⟨hn42a, hn42b⟩ := and_e hn41b
  have F_DEPLETION_eyeballSpaces := Fld.start ((fld_at ev_DEPLETION).symm.trans (eqi_v hn42a))
  obtain ⟨hn43a, hn43b⟩ := and_e hn42b
  obtain ⟨a_DOMINATION, ev_DOMINATION⟩ := exa_v hn43a
  have S_DOMINATION := Sta.start ev_DOMINATION (Or.inr ⟨(hw _ (List.mem_of_getElem? (i := 54) rfl)), (hw _ (List.mem_of_getElem? (i := 121) rfl))⟩)
  have E_DOMINATION := Exa.start ev_DOMINATION hn43a
  obtain ⟨hn44a, hn44b⟩ := and_e hn43b
  have F_DOMINATION_ordinal := Fld.start ((fld_at ev_DOMINATION).symm.trans (eqi_v hn44a))
  obtain ⟨hn45a, hn45b⟩ := and_e hn44b
  have F_DOMINATION_eyeballSpaces := Fld.start ((fld_at ev_DOMINATION).symm.trans (eqi_v hn45a))
  obtain ⟨hn46a, hn46b⟩ := and_e hn45b
  obtain ⟨a_REGRESSION, ev_REGRESSION⟩ := exa_v hn46a
  have S_REGRESSION := Sta.start ev_REGRESSION (Or.inr ⟨(hw _ (List.mem_of_getElem? (i := 54) rfl)), (hw _ (List.mem_of_getElem? (i := 123) rfl))⟩)
  have E_REGRESSION := Exa.start ev_REGRESSION hn46a
  obtain ⟨hn47a, hn47b⟩ := and_e hn46b
  have F_REGRESSION_ordinal := Fld.start ((fld_at ev_REGRESSION).symm.trans (eqi_v hn47a))
  obtain ⟨hn48a, hn48b⟩ := and_e hn47b
  have F_REGRESSION_eyeballSpaces := Fld.start ((fld_at ev_REGRESSION).symm.trans (eqi_v hn48a))
  obtain ⟨hn49a, hn49b⟩ := and_e hn48b
  obtain ⟨a_GLACIATION, ev_GLACIATION⟩ := exa_v hn49a
  have S_GLACIATION := Sta.start ev_GLACIATION (Or.inr ⟨(hw _ (List.mem_of_getElem? (i := 54) rfl)), (hw _ (List.mem_of_getElem? (i := 125) rfl))⟩)
  have E_GLACIATION := Exa.start ev_GLACIATION hn49a
  obtain ⟨hn50a, hn50b⟩ := and_e hn49b
  have F_GLACIATION_ordinal := Fld.start ((fld_at ev_GLACIATION).symm.trans (eqi_v hn50a))
  obtain ⟨hn51a, hn51b⟩ := and_e hn50b
  have F_GLACIATION_eyeballSpaces := Fld.start ((fld_at ev_GLACIATION).symm.trans (eqi_v hn51a))
  obtain ⟨hn52a, hn52b⟩ := and_e hn51b
  obtain ⟨hn53a, hn53b⟩ := and_e hn52b
  obtain ⟨hn54a, hn54b⟩ := and_e hn53b
  obtain ⟨hn55a, hn55b⟩ := and_e hn54b
  obtain ⟨hn56a, hn56b⟩ := and_e hn55b
  obtain ⟨hn57a, hn57b⟩ := and_e hn56b
  obtain ⟨hn58a, hn58b⟩ := and_e hn57b
  obtain ⟨hn59a, hn59b⟩ := and_e hn58b
  obtain ⟨hn60a, hn60b⟩ := and_e hn59b
  obtain ⟨hn61a, hn61b⟩ := and_e hn60b
  obtain ⟨hn62a, hn62b⟩ := and_e hn61b
  have Ssp := Sta.start (eqi_v hn1a) (Or.inr ⟨(hw _ (List.mem_of_getElem? (i := 19) rfl)), (hw _ (List.mem_of_getElem? (i := 27) rfl))⟩)
  obtain ⟨fi, efi⟩ := arr_v hn7a
  have Sfi := Sta.start efi (Or.inr ⟨(hw _ (List.mem_of_getElem? (i := 19) rfl)), (hw _ (List.mem_of_getElem? (i := 72) rfl))⟩)
  obtain ⟨cc, Acc⟩ := Arr.start efi hn7a
  obtain ⟨hsz, hsize⟩ := Jvm.Free.IntBox.length_fwd (Cond.before_iff.mpr hn8a) efi Acc.1 Acc.2.1 Acc.2.2
  have qe0 := (elem_in (eqi_v hn52a) efi (Term.int_eval (0)) Acc.1).2
  have qe1 := (elem_in (eqi_v hn53a) efi (Term.int_eval (1)) Acc.1).2
  have qe2 := (elem_in (eqi_v hn54a) efi (Term.int_eval (2)) Acc.1).2
  have qe3 := (elem_in (eqi_v hn55a) efi (Term.int_eval (3)) Acc.1).2
  have qe4 := (elem_in (eqi_v hn56a) efi (Term.int_eval (4)) Acc.1).2
  have qe5 := (elem_in (eqi_v hn57a) efi (Term.int_eval (5)) Acc.1).2
  have qe6 := (elem_in (eqi_v hn58a) efi (Term.int_eval (6)) Acc.1).2
  have qe7 := (elem_in (eqi_v hn59a) efi (Term.int_eval (7)) Acc.1).2
  have qe8 := (elem_in (eqi_v hn60a) efi (Term.int_eval (8)) Acc.1).2
  have qe9 := (elem_in (eqi_v hn61a) efi (Term.int_eval (9)) Acc.1).2
  have qe10 := (elem_in (eqi_v hn62a) efi (Term.int_eval (10)) Acc.1).2
  have qe11 := (elem_in (eqi_v hn62b) efi (Term.int_eval (11)) Acc.1).2
  have Afi : AF s s.heap fi cc.cls .int 12 (fun i => .int (own_first i)) := ⟨cc, Acc, rfl, own_sz12 hsz hsize, by decide, fun i hi => by
    rcases own_12 hi with rfl | rfl | rfl | rfl | rfl | rfl | rfl | rfl | rfl | rfl | rfl | rfl
    · exact qe0
    · exact qe1
    · exact qe2
    · exact qe3
    · exact qe4
    · exact qe5
    · exact qe6
    · exact qe7
    · exact qe8
    · exact qe9
    · exact qe10
    · exact qe11⟩
  have HS : ∀ k, k < 12 → Exa s s.heap (own_sec k a_INITIATIVE a_ADAPTATION a_REGRESSION a_ABUNDANCE a_WASTELAND a_DEPLETION a_GLACIATION a_SPECIATION a_WANDERLUST a_MIGRATION a_COMPETITION a_DOMINATION) "com/example/tundra_ascent/tundraascent/rules/Section" ∧ Fld s s.heap (own_sec k a_INITIATIVE a_ADAPTATION a_REGRESSION a_ABUNDANCE a_WASTELAND a_DEPLETION a_GLACIATION a_SPECIATION a_WANDERLUST a_MIGRATION a_COMPETITION a_DOMINATION) "java/lang/Enum" "ordinal" "I" (.int (Int32.ofNat k)) ∧ Fld s s.heap (own_sec k a_INITIATIVE a_ADAPTATION a_REGRESSION a_ABUNDANCE a_WASTELAND a_DEPLETION a_GLACIATION a_SPECIATION a_WANDERLUST a_MIGRATION a_COMPETITION a_DOMINATION) "com/example/tundra_ascent/tundraascent/rules/Section" "eyeballSpaces" "I" (.int (own_szN k)) := by
    intro k hk
    rcases own_12 hk with rfl | rfl | rfl | rfl | rfl | rfl | rfl | rfl | rfl | rfl | rfl | rfl
    · exact ⟨E_INITIATIVE, F_INITIATIVE_ordinal, F_INITIATIVE_eyeballSpaces⟩
    · exact ⟨E_ADAPTATION, F_ADAPTATION_ordinal, F_ADAPTATION_eyeballSpaces⟩
    · exact ⟨E_REGRESSION, F_REGRESSION_ordinal, F_REGRESSION_eyeballSpaces⟩
    · exact ⟨E_ABUNDANCE, F_ABUNDANCE_ordinal, F_ABUNDANCE_eyeballSpaces⟩
    · exact ⟨E_WASTELAND, F_WASTELAND_ordinal, F_WASTELAND_eyeballSpaces⟩
    · exact ⟨E_DEPLETION, F_DEPLETION_ordinal, F_DEPLETION_eyeballSpaces⟩
    · exact ⟨E_GLACIATION, F_GLACIATION_ordinal, F_GLACIATION_eyeballSpaces⟩
    · exact ⟨E_SPECIATION, F_SPECIATION_ordinal, F_SPECIATION_eyeballSpaces⟩
    · exact ⟨E_WANDERLUST, F_WANDERLUST_ordinal, F_WANDERLUST_eyeballSpaces⟩
    · exact ⟨E_MIGRATION, F_MIGRATION_ordinal, F_MIGRATION_eyeballSpaces⟩
    · exact ⟨E_COMPETITION, F_COMPETITION_ordinal, F_COMPETITION_eyeballSpaces⟩
    · exact ⟨E_DOMINATION, F_DOMINATION_ordinal, F_DOMINATION_eyeballSpaces⟩
  have HA : ∀ k, k < 6 → Exa s s.heap (own_an k a_MAMMALS a_REPTILES a_BIRDS a_AMPHIBIANS a_ARACHNIDS a_INSECTS) "com/example/tundra_ascent/tundraascent/rules/Animal" := by
    intro k hk
    rcases own_6 hk with rfl | rfl | rfl | rfl | rfl | rfl
    · exact E_MAMMALS
    · exact E_REPTILES
    · exact E_BIRDS
    · exact E_AMPHIBIANS
    · exact E_ARACHNIDS
    · exact E_INSECTS
  have HD : ∀ j k, j < 6 → k < 6 → (own_an j a_MAMMALS a_REPTILES a_BIRDS a_AMPHIBIANS a_ARACHNIDS a_INSECTS = own_an k a_MAMMALS a_REPTILES a_BIRDS a_AMPHIBIANS a_ARACHNIDS a_INSECTS ↔ Int32.ofNat j = Int32.ofNat k) := by
    intro j k hj hk
    rcases own_6 hj with rfl | rfl | rfl | rfl | rfl | rfl
    · rcases own_6 hk with rfl | rfl | rfl | rfl | rfl | rfl
      · exact ⟨fun _ => rfl, fun _ => rfl⟩
      · exact ⟨fun e => absurd e (Fld.ne F_MAMMALS_ordinal F_REPTILES_ordinal (by decide)), fun e => absurd e (by decide)⟩
      · exact ⟨fun e => absurd e (Fld.ne F_MAMMALS_ordinal F_BIRDS_ordinal (by decide)), fun e => absurd e (by decide)⟩
      · exact ⟨fun e => absurd e (Fld.ne F_MAMMALS_ordinal F_AMPHIBIANS_ordinal (by decide)), fun e => absurd e (by decide)⟩
      · exact ⟨fun e => absurd e (Fld.ne F_MAMMALS_ordinal F_ARACHNIDS_ordinal (by decide)), fun e => absurd e (by decide)⟩
      · exact ⟨fun e => absurd e (Fld.ne F_MAMMALS_ordinal F_INSECTS_ordinal (by decide)), fun e => absurd e (by decide)⟩
    · rcases own_6 hk with rfl | rfl | rfl | rfl | rfl | rfl
      · exact ⟨fun e => absurd e (Fld.ne F_REPTILES_ordinal F_MAMMALS_ordinal (by decide)), fun e => absurd e (by decide)⟩
      · exact ⟨fun _ => rfl, fun _ => rfl⟩
      · exact ⟨fun e => absurd e (Fld.ne F_REPTILES_ordinal F_BIRDS_ordinal (by decide)), fun e => absurd e (by decide)⟩
      · exact ⟨fun e => absurd e (Fld.ne F_REPTILES_ordinal F_AMPHIBIANS_ordinal (by decide)), fun e => absurd e (by decide)⟩
      · exact ⟨fun e => absurd e (Fld.ne F_REPTILES_ordinal F_ARACHNIDS_ordinal (by decide)), fun e => absurd e (by decide)⟩
      · exact ⟨fun e => absurd e (Fld.ne F_REPTILES_ordinal F_INSECTS_ordinal (by decide)), fun e => absurd e (by decide)⟩
    · rcases own_6 hk with rfl | rfl | rfl | rfl | rfl | rfl
      · exact ⟨fun e => absurd e (Fld.ne F_BIRDS_ordinal F_MAMMALS_ordinal (by decide)), fun e => absurd e (by decide)⟩
      · exact ⟨fun e => absurd e (Fld.ne F_BIRDS_ordinal F_REPTILES_ordinal (by decide)), fun e => absurd e (by decide)⟩
      · exact ⟨fun _ => rfl, fun _ => rfl⟩
      · exact ⟨fun e => absurd e (Fld.ne F_BIRDS_ordinal F_AMPHIBIANS_ordinal (by decide)), fun e => absurd e (by decide)⟩
      · exact ⟨fun e => absurd e (Fld.ne F_BIRDS_ordinal F_ARACHNIDS_ordinal (by decide)), fun e => absurd e (by decide)⟩
      · exact ⟨fun e => absurd e (Fld.ne F_BIRDS_ordinal F_INSECTS_ordinal (by decide)), fun e => absurd e (by decide)⟩
    · rcases own_6 hk with rfl | rfl | rfl | rfl | rfl | rfl
      · exact ⟨fun e => absurd e (Fld.ne F_AMPHIBIANS_ordinal F_MAMMALS_ordinal (by decide)), fun e => absurd e (by decide)⟩
      · exact ⟨fun e => absurd e (Fld.ne F_AMPHIBIANS_ordinal F_REPTILES_ordinal (by decide)), fun e => absurd e (by decide)⟩
      · exact ⟨fun e => absurd e (Fld.ne F_AMPHIBIANS_ordinal F_BIRDS_ordinal (by decide)), fun e => absurd e (by decide)⟩
      · exact ⟨fun _ => rfl, fun _ => rfl⟩
      · exact ⟨fun e => absurd e (Fld.ne F_AMPHIBIANS_ordinal F_ARACHNIDS_ordinal (by decide)), fun e => absurd e (by decide)⟩
      · exact ⟨fun e => absurd e (Fld.ne F_AMPHIBIANS_ordinal F_INSECTS_ordinal (by decide)), fun e => absurd e (by decide)⟩
    · rcases own_6 hk with rfl | rfl | rfl | rfl | rfl | rfl
      · exact ⟨fun e => absurd e (Fld.ne F_ARACHNIDS_ordinal F_MAMMALS_ordinal (by decide)), fun e => absurd e (by decide)⟩
      · exact ⟨fun e => absurd e (Fld.ne F_ARACHNIDS_ordinal F_REPTILES_ordinal (by decide)), fun e => absurd e (by decide)⟩
      · exact ⟨fun e => absurd e (Fld.ne F_ARACHNIDS_ordinal F_BIRDS_ordinal (by decide)), fun e => absurd e (by decide)⟩
      · exact ⟨fun e => absurd e (Fld.ne F_ARACHNIDS_ordinal F_AMPHIBIANS_ordinal (by decide)), fun e => absurd e (by decide)⟩
      · exact ⟨fun _ => rfl, fun _ => rfl⟩
      · exact ⟨fun e => absurd e (Fld.ne F_ARACHNIDS_ordinal F_INSECTS_ordinal (by decide)), fun e => absurd e (by decide)⟩
    · rcases own_6 hk with rfl | rfl | rfl | rfl | rfl | rfl
      · exact ⟨fun e => absurd e (Fld.ne F_INSECTS_ordinal F_MAMMALS_ordinal (by decide)), fun e => absurd e (by decide)⟩
      · exact ⟨fun e => absurd e (Fld.ne F_INSECTS_ordinal F_REPTILES_ordinal (by decide)), fun e => absurd e (by decide)⟩
      · exact ⟨fun e => absurd e (Fld.ne F_INSECTS_ordinal F_BIRDS_ordinal (by decide)), fun e => absurd e (by decide)⟩
      · exact ⟨fun e => absurd e (Fld.ne F_INSECTS_ordinal F_AMPHIBIANS_ordinal (by decide)), fun e => absurd e (by decide)⟩
      · exact ⟨fun e => absurd e (Fld.ne F_INSECTS_ordinal F_ARACHNIDS_ordinal (by decide)), fun e => absurd e (by decide)⟩
      · exact ⟨fun _ => rfl, fun _ => rfl⟩
  obtain ⟨n, o, h1, h2, h3, _, L, rfl, ⟨rfl, N⟩, hq⟩ := rm0 l s _ hw i0 i1 i2 i3 i4 a_MAMMALS a_REPTILES a_BIRDS a_AMPHIBIANS a_ARACHNIDS a_INSECTS a_INITIATIVE a_ADAPTATION a_REGRESSION a_ABUNDANCE a_WASTELAND a_DEPLETION a_GLACIATION a_SPECIATION a_WANDERLUST a_MIGRATION a_COMPETITION a_DOMINATION fi cc.cls s.heap s.heap.size (Nat.le_refl _) (Old.start s) S_MAMMALS S_REPTILES S_BIRDS S_AMPHIBIANS S_ARACHNIDS S_INSECTS S_INITIATIVE S_ADAPTATION S_REGRESSION S_ABUNDANCE S_WASTELAND S_DEPLETION S_GLACIATION S_SPECIATION S_WANDERLUST S_MIGRATION S_COMPETITION S_DOMINATION Ssp Sfi Afi HS HA HD tables_1 p e ha hc hk s m _ below hf ((Spec.applies_iff_loose hf).mp happ).1 ⟨rfl, State.Warmed39.refl s, rfl⟩ trivial
  refine ⟨n, _, h1, h2, h3, hpost _ _ _ _ _ _ ⟨Cond.after_iff.mpr rfl, Cond.after_iff.mpr (eq_i res_at (Term.int_eval (1)) rfl), trivial⟩ ⟨hq.1, hq.2.1, (hq.2.2.sift fun y hy => Or.inr (N y hy)).mono (by decide) (by decide)⟩⟩
theorem main_1_1 : Claimed_1_1 := comes_1 fun _ _ _ _ _ _ h hF => ⟨h.1, hF⟩
theorem main_1_2 : Claimed_1_2 := comes_1 fun _ _ _ _ _ _ h hF => ⟨h.2.1, hF⟩
end Jvm.Pilot.@@N@@
namespace Jvm.Pilot.@@N@@
open Jvm Jvm.ClassFile Sem Op Lib Jvm.Free Jvm.Stand Jvm.Pilot.@@N@@.Jvm.D
/-! MADE BY PROGRAM (witnessworld.py) out of the Statement's table words and the real class files: 18 classes; the members and pool entries that the words name. The judged class is class 1, her method 9. -/
namespace start1
open Jvm.ClassFile
def u (s : String) : CpInfo := .utf8 (stringToUtf16 s)
/-- a pool by its gaps: so many unusable entries, then the entry; so many at the end -/
def gap : Nat → List CpInfo → List CpInfo
  | 0, r => r
  | n + 1, r => .unusable :: gap n r
def poolList (es : List (Nat × CpInfo)) (last : Nat) : List CpInfo := es.foldr (fun e r => gap e.1 (e.2 :: r)) (gap last [])
def pool (es : List (Nat × CpInfo)) (last : Nat) : Array CpInfo := ⟨poolList es last⟩
def fileOf (pool : Array CpInfo) (this : Nat) (attrs : Array Attribute := #[]) (ms : Array MethodInfo := #[]) (fl : Nat := 33) (sup : Nat := 0) (ifs : Array Nat := #[]) (fds : Array FieldInfo := #[]) : ClassFile where
  minorVersion := 0
  majorVersion := 65
  constantPool := pool
  accessFlags := fl
  thisClass := this
  superClass := sup
  interfaces := ifs
  fields := fds
  methods := ms
  attributes := attrs
def plain (name : String) (sup : Option ClassId) : Class where
  name := name
  kind := .ordinary
  loader := none
  accessFlags := 33
  super := sup
  interfaces := #[]
  cf := none
  fields := #[]
  methods := #[]
  instanceTypes := #[]
  staticTypes := #[]
  resolved := #[]
  callSites := []
  init := .initialized
  statics := none
  mirror := none

def pool0 : Array CpInfo := pool [(5, u "<init>"), (0, u "()V"), (1, .class_ 10), (1, u "java/lang/Object")] 113

def k0c0 : Code := { maxStack := 0, maxLocals := 1, code := object_method_1_code, exceptionTable := #[], attributes := #[] }
def k0m0 : Method := { name := "<init>", desc := "()V", sig := { parameters := [], returnType := none }, accessFlags := 1, code := some k0c0 }
/-- java/lang/Object -/
def k0 : Class := { plain "java/lang/Object" none with
  accessFlags := 33
  interfaces := #[]
  cf := some (fileOf pool0 8 #[] #[{ accessFlags := 1, nameIndex := 5, descriptorIndex := 6, attributes := #[] }] 33 0 #[] #[])
  fields := #[]
  methods := #[k0m0]
  instanceTypes := #[]
  staticTypes := #[]
  resolved := Array.replicate 124 none
  statics := none }

def pool1 : Array CpInfo := pool [(2, .class_ 4), (0, .nameAndType 5 6), (0, u "java/lang/Object"), (0, u "<init>"), (0, u "()V"), (0, .fieldref 8 9), (0, .class_ 10), (0, .nameAndType 11 12), (0, u "com/example/tundra_ascent/tundraascent/rules/Section"), (0, u "INITIATIVE"), (0, u "Lcom/example/tundra_ascent/tundraascent/rules/Section;"), (0, .fieldref 8 14), (0, .nameAndType 15 12), (0, u "ADAPTATION"), (0, .fieldref 8 17), (0, .nameAndType 18 12), (0, u "REGRESSION"), (0, .fieldref 8 20), (0, .nameAndType 21 12), (0, u "ABUNDANCE"), (0, .fieldref 8 23), (0, .nameAndType 24 12), (0, u "WASTELAND"), (0, .fieldref 8 26), (0, .nameAndType 27 12), (0, u "DEPLETION"), (0, .fieldref 8 29), (0, .nameAndType 30 12), (0, u "GLACIATION"), (0, .fieldref 8 32), (0, .nameAndType 33 12), (0, u "SPECIATION"), (0, .fieldref 8 35), (0, .nameAndType 36 12), (0, u "WANDERLUST"), (0, .fieldref 8 38), (0, .nameAndType 39 12), (0, u "MIGRATION"), (0, .fieldref 8 41), (0, .nameAndType 42 12), (0, u "COMPETITION"), (0, .fieldref 8 44), (0, .nameAndType 45 12), (0, u "DOMINATION"), (0, .fieldref 47 48), (0, .class_ 49), (0, .nameAndType 50 51), (0, u "com/example/tundra_ascent/tundraascent/rules/Animal"), (0, u "MAMMALS"), (0, u "Lcom/example/tundra_ascent/tundraascent/rules/Animal;"), (0, .fieldref 47 53), (0, .nameAndType 54 51), (0, u "REPTILES"), (0, .fieldref 47 56), (0, .nameAndType 57 51), (0, u "BIRDS"), (0, .fieldref 47 59), (0, .nameAndType 60 51), (0, u "AMPHIBIANS"), (0, .fieldref 47 62), (0, .nameAndType 63 51), (0, u "ARACHNIDS"), (0, .fieldref 47 65), (0, .nameAndType 66 51), (0, u "INSECTS"), (0, .methodref 68 69), (0, .class_ 70), (0, .nameAndType 71 72), (0, u "com/example/tundra_ascent/tundraascent/rules/DisplayPawnsOfPinLaw"), (0, u "size"), (0, u "(I)I"), (0, .methodref 68 74), (0, .nameAndType 75 72), (0, u "sec"), (0, .methodref 68 77), (0, .nameAndType 78 79), (0, u "space"), (0, u "(II)I"), (0, .methodref 68 81), (0, .nameAndType 82 72), (0, u "ani"), (0, .methodref 68 84), (0, .nameAndType 85 86), (0, u "flag"), (0, u "(I)Z"), (0, .class_ 88), (0, u "com/example/tundra_ascent/tundraascent/rules/Display"), (0, .methodref 87 3), (0, .methodref 68 91), (0, .nameAndType 92 93), (0, u "section"), (0, u "(I)Lcom/example/tundra_ascent/tundraascent/rules/Section;"), (0, .methodref 68 95), (0, .nameAndType 96 97), (0, u "animal"), (0, u "(I)Lcom/example/tundra_ascent/tundraascent/rules/Animal;"), (0, .methodref 87 99), (0, .nameAndType 100 101), (0, u "place"), (0, u "(Lcom/example/tundra_ascent/tundraascent/rules/Section;ILcom/example/tundra_ascent/tundraascent/rules/Animal;)V"), (0, .methodref 68 103), (0, .nameAndType 104 105), (0, u "one"), (0, u "(ZII)I"), (0, .methodref 87 107), (0, .nameAndType 108 109), (0, u "pawnsOf"), (0, u "(Lcom/example/tundra_ascent/tundraascent/rules/Animal;)I"), (3, u "law"), (0, u "(IIIII)Z")] 2

def k1m0 : Method := { name := "<init>", desc := "()V", sig := { parameters := [], returnType := none }, accessFlags := 1, code := none }
def k1c1 : Code := { maxStack := 4, maxLocals := 2, code := method_2_code, exceptionTable := #[], attributes := #[] }
def k1m1 : Method := { name := "size", desc := "(I)I", sig := { parameters := [.int], returnType := some .int }, accessFlags := 10, code := some k1c1 }
def k1c2 : Code := { maxStack := 2, maxLocals := 1, code := method_3_code, exceptionTable := #[], attributes := #[] }
def k1m2 : Method := { name := "section", desc := "(I)Lcom/example/tundra_ascent/tundraascent/rules/Section;", sig := { parameters := [.int], returnType := some (.object "com/example/tundra_ascent/tundraascent/rules/Section") }, accessFlags := 10, code := some k1c2 }
def k1c3 : Code := { maxStack := 2, maxLocals := 1, code := method_4_code, exceptionTable := #[], attributes := #[] }
def k1m3 : Method := { name := "animal", desc := "(I)Lcom/example/tundra_ascent/tundraascent/rules/Animal;", sig := { parameters := [.int], returnType := some (.object "com/example/tundra_ascent/tundraascent/rules/Animal") }, accessFlags := 10, code := some k1c3 }
def k1c4 : Code := { maxStack := 2, maxLocals := 1, code := method_5_code, exceptionTable := #[], attributes := #[] }
def k1m4 : Method := { name := "sec", desc := "(I)I", sig := { parameters := [.int], returnType := some .int }, accessFlags := 10, code := some k1c4 }
def k1c5 : Code := { maxStack := 3, maxLocals := 2, code := method_6_code, exceptionTable := #[], attributes := #[] }
def k1m5 : Method := { name := "space", desc := "(II)I", sig := { parameters := [.int, .int], returnType := some .int }, accessFlags := 10, code := some k1c5 }
def k1c6 : Code := { maxStack := 2, maxLocals := 1, code := method_7_code, exceptionTable := #[], attributes := #[] }
def k1m6 : Method := { name := "ani", desc := "(I)I", sig := { parameters := [.int], returnType := some .int }, accessFlags := 10, code := some k1c6 }
def k1c7 : Code := { maxStack := 2, maxLocals := 1, code := method_8_code, exceptionTable := #[], attributes := #[] }
def k1m7 : Method := { name := "flag", desc := "(I)Z", sig := { parameters := [.int], returnType := some .boolean }, accessFlags := 10, code := some k1c7 }
def k1c8 : Code := { maxStack := 2, maxLocals := 3, code := method_9_code, exceptionTable := #[], attributes := #[] }
def k1m8 : Method := { name := "one", desc := "(ZII)I", sig := { parameters := [.boolean, .int, .int], returnType := some .int }, accessFlags := 10, code := some k1c8 }
def k1c9 : Code := { maxStack := 4, maxLocals := 25, code := code, exceptionTable := #[], attributes := #[] }
def k1m9 : Method := { name := "law", desc := "(IIIII)Z", sig := { parameters := [.int, .int, .int, .int, .int], returnType := some .boolean }, accessFlags := 9, code := some k1c9 }
/-- com/example/tundra_ascent/tundraascent/rules/DisplayPawnsOfPinLaw -/
def k1 : Class := { plain "com/example/tundra_ascent/tundraascent/rules/DisplayPawnsOfPinLaw" (some 0) with
  accessFlags := 49
  interfaces := #[]
  cf := some (fileOf pool1 68 #[] #[{ accessFlags := 1, nameIndex := 5, descriptorIndex := 6, attributes := #[] }, { accessFlags := 10, nameIndex := 71, descriptorIndex := 72, attributes := #[] }, { accessFlags := 10, nameIndex := 92, descriptorIndex := 93, attributes := #[] }, { accessFlags := 10, nameIndex := 96, descriptorIndex := 97, attributes := #[] }, { accessFlags := 10, nameIndex := 75, descriptorIndex := 72, attributes := #[] }, { accessFlags := 10, nameIndex := 78, descriptorIndex := 79, attributes := #[] }, { accessFlags := 10, nameIndex := 82, descriptorIndex := 72, attributes := #[] }, { accessFlags := 10, nameIndex := 85, descriptorIndex := 86, attributes := #[] }, { accessFlags := 10, nameIndex := 104, descriptorIndex := 105, attributes := #[] }, { accessFlags := 9, nameIndex := 113, descriptorIndex := 114, attributes := #[] }] 49 2 #[] #[])
  fields := #[]
  methods := #[k1m0, k1m1, k1m2, k1m3, k1m4, k1m5, k1m6, k1m7, k1m8, k1m9]
  instanceTypes := #[]
  staticTypes := #[]
  resolved := Array.replicate 117 none
  statics := none }

def pool2 : Array CpInfo := pool [(1, .methodref 2 3), (0, .class_ 4), (0, .nameAndType 5 6), (0, u "java/lang/Object"), (0, u "<init>"), (0, u "()V"), (0, .fieldref 8 9), (0, .class_ 10), (0, .nameAndType 11 12), (0, u "com/example/tundra_ascent/tundraascent/rules/Display"), (0, u "SPACES"), (0, u "I"), (0, .class_ 14), (0, u "com/example/tundra_ascent/tundraascent/rules/Animal"), (0, .fieldref 8 16), (0, .nameAndType 17 18), (0, u "pawns"), (0, u "[Lcom/example/tundra_ascent/tundraascent/rules/Animal;"), (2, u "SECTION_AT"), (0, u "[Lcom/example/tundra_ascent/tundraascent/rules/Section;"), (2, u "SPACE_AT"), (0, u "[I"), (0, .methodref 8 28), (0, .nameAndType 29 30), (0, u "owner"), (0, u "(Lcom/example/tundra_ascent/tundraascent/rules/Section;I)Lcom/example/tundra_ascent/tundraascent/rules/Animal;"), (6, .methodref 8 38), (0, .nameAndType 39 40), (0, u "index"), (0, u "(Lcom/example/tundra_ascent/tundraascent/rules/Section;I)I"), (4, .fieldref 8 46), (0, .nameAndType 47 48), (0, u "occupied"), (0, u "J"), (5, .class_ 56), (1, u "com/example/tundra_ascent/tundraascent/rules/Section"), (10, .fieldref 8 68), (0, .nameAndType 69 26), (0, u "FIRST"), (0, .methodref 54 71), (0, .nameAndType 72 73), (0, u "ordinal"), (0, u "()I"), (0, .methodref 54 75), (0, .nameAndType 76 73), (0, u "eyeballSpaces"), (41, .methodref 119 120), (0, .class_ 121), (0, .nameAndType 122 123), (0, u "java/util/Objects"), (0, u "checkIndex"), (0, u "(II)I"), (36, u "pawnsOf"), (0, u "(Lcom/example/tundra_ascent/tundraascent/rules/Animal;)I"), (2, u "place"), (0, u "(Lcom/example/tundra_ascent/tundraascent/rules/Section;ILcom/example/tundra_ascent/tundraascent/rules/Animal;)V")] 40

def k2c0 : Code := { maxStack := 2, maxLocals := 1, code := prog_15_method_1_code, exceptionTable := #[], attributes := #[] }
def k2m0 : Method := { name := "<init>", desc := "()V", sig := { parameters := [], returnType := none }, accessFlags := 0, code := some k2c0 }
def k2c1 : Code := { maxStack := 3, maxLocals := 3, code := prog_15_method_5_code, exceptionTable := #[], attributes := #[] }
def k2m1 : Method := { name := "owner", desc := "(Lcom/example/tundra_ascent/tundraascent/rules/Section;I)Lcom/example/tundra_ascent/tundraascent/rules/Animal;", sig := { parameters := [(.object "com/example/tundra_ascent/tundraascent/rules/Section"), .int], returnType := some (.object "com/example/tundra_ascent/tundraascent/rules/Animal") }, accessFlags := 0, code := some k2c1 }
def k2c2 : Code := { maxStack := 2, maxLocals := 7, code := prog_15_method_7_code, exceptionTable := #[], attributes := #[] }
def k2m2 : Method := { name := "pawnsOf", desc := "(Lcom/example/tundra_ascent/tundraascent/rules/Animal;)I", sig := { parameters := [(.object "com/example/tundra_ascent/tundraascent/rules/Animal")], returnType := some .int }, accessFlags := 0, code := some k2c2 }
def k2c3 : Code := { maxStack := 6, maxLocals := 5, code := prog_15_method_8_code, exceptionTable := #[], attributes := #[] }
def k2m3 : Method := { name := "place", desc := "(Lcom/example/tundra_ascent/tundraascent/rules/Section;ILcom/example/tundra_ascent/tundraascent/rules/Animal;)V", sig := { parameters := [(.object "com/example/tundra_ascent/tundraascent/rules/Section"), .int, (.object "com/example/tundra_ascent/tundraascent/rules/Animal")], returnType := none }, accessFlags := 0, code := some k2c3 }
def k2c4 : Code := { maxStack := 3, maxLocals := 2, code := prog_15_method_13_code, exceptionTable := #[], attributes := #[] }
def k2m4 : Method := { name := "index", desc := "(Lcom/example/tundra_ascent/tundraascent/rules/Section;I)I", sig := { parameters := [(.object "com/example/tundra_ascent/tundraascent/rules/Section"), .int], returnType := some .int }, accessFlags := 10, code := some k2c4 }
/-- com/example/tundra_ascent/tundraascent/rules/Display -/
def k2 : Class := { plain "com/example/tundra_ascent/tundraascent/rules/Display" (some 0) with
  accessFlags := 48
  interfaces := #[]
  cf := some (fileOf pool2 8 #[] #[{ accessFlags := 0, nameIndex := 5, descriptorIndex := 6, attributes := #[] }, { accessFlags := 0, nameIndex := 29, descriptorIndex := 30, attributes := #[] }, { accessFlags := 0, nameIndex := 160, descriptorIndex := 161, attributes := #[] }, { accessFlags := 0, nameIndex := 164, descriptorIndex := 165, attributes := #[] }, { accessFlags := 10, nameIndex := 39, descriptorIndex := 40, attributes := #[] }] 48 2 #[] #[{ accessFlags := 24, nameIndex := 11, descriptorIndex := 12, attributes := #[] }, { accessFlags := 26, nameIndex := 69, descriptorIndex := 26, attributes := #[] }, { accessFlags := 26, nameIndex := 21, descriptorIndex := 22, attributes := #[] }, { accessFlags := 26, nameIndex := 25, descriptorIndex := 26, attributes := #[] }, { accessFlags := 18, nameIndex := 17, descriptorIndex := 18, attributes := #[] }, { accessFlags := 2, nameIndex := 47, descriptorIndex := 48, attributes := #[] }])
  fields := #[{ name := "SPACES", type := .int, accessFlags := 24, slot := 0, constantValue := 0 }, { name := "FIRST", type := (.array .int), accessFlags := 26, slot := 1, constantValue := 0 }, { name := "SECTION_AT", type := (.array (.object "com/example/tundra_ascent/tundraascent/rules/Section")), accessFlags := 26, slot := 2, constantValue := 0 }, { name := "SPACE_AT", type := (.array .int), accessFlags := 26, slot := 3, constantValue := 0 }, { name := "pawns", type := (.array (.object "com/example/tundra_ascent/tundraascent/rules/Animal")), accessFlags := 18, slot := 0, constantValue := 0 }, { name := "occupied", type := .long, accessFlags := 2, slot := 1, constantValue := 0 }]
  methods := #[k2m0, k2m1, k2m2, k2m3, k2m4]
  instanceTypes := #[(.array (.object "com/example/tundra_ascent/tundraascent/rules/Animal")), .long]
  staticTypes := #[.int, (.array .int), (.array (.object "com/example/tundra_ascent/tundraascent/rules/Section")), (.array .int)]
  resolved := Array.replicate 206 none
  statics := some 0 }

def pool3 : Array CpInfo := pool [(1, .class_ 2), (0, u "java/lang/constant/Constable"), (0, .class_ 4), (0, u "java/lang/Object")] 6

/-- java/lang/constant/Constable -/
def k3 : Class := { plain "java/lang/constant/Constable" (some 0) with
  accessFlags := 1537
  interfaces := #[]
  cf := some (fileOf pool3 1 #[] #[] 1537 3 #[] #[])
  fields := #[]
  methods := #[]
  instanceTypes := #[]
  staticTypes := #[]
  resolved := Array.replicate 11 none
  statics := none }

def pool4 : Array CpInfo := pool [(1, .class_ 2), (0, u "java/lang/Comparable"), (0, .class_ 4), (0, u "java/lang/Object")] 7

/-- java/lang/Comparable -/
def k4 : Class := { plain "java/lang/Comparable" (some 0) with
  accessFlags := 1537
  interfaces := #[]
  cf := some (fileOf pool4 1 #[] #[] 1537 3 #[] #[])
  fields := #[]
  methods := #[]
  instanceTypes := #[]
  staticTypes := #[]
  resolved := Array.replicate 12 none
  statics := none }

def pool5 : Array CpInfo := pool [(1, .class_ 2), (0, u "java/io/Serializable"), (0, .class_ 4), (0, u "java/lang/Object")] 2

/-- java/io/Serializable -/
def k5 : Class := { plain "java/io/Serializable" (some 0) with
  accessFlags := 1537
  interfaces := #[]
  cf := some (fileOf pool5 1 #[] #[] 1537 3 #[] #[])
  fields := #[]
  methods := #[]
  instanceTypes := #[]
  staticTypes := #[]
  resolved := Array.replicate 7 none
  statics := none }

def pool6 : Array CpInfo := pool [(2, .class_ 4), (1, u "java/lang/Enum"), (0, u "name"), (0, u "Ljava/lang/String;"), (0, .fieldref 2 8), (0, .nameAndType 9 10), (0, u "ordinal"), (0, u "I"), (1, .class_ 14), (1, u "java/lang/Object"), (4, u "hash"), (86, .class_ 108), (1, u "java/lang/Enum$EnumDesc"), (2, .class_ 112), (0, u "java/lang/constant/Constable"), (0, .class_ 114), (0, u "java/lang/Comparable"), (0, .class_ 116), (0, u "java/io/Serializable"), (9, u "()I")] 77

def k6c0 : Code := { maxStack := 1, maxLocals := 1, code := jdk_37_method_2_code, exceptionTable := #[], attributes := #[] }
def k6m0 : Method := { name := "ordinal", desc := "()I", sig := { parameters := [], returnType := some .int }, accessFlags := 17, code := some k6c0 }
/-- java/lang/Enum -/
def k6 : Class := { plain "java/lang/Enum" (some 0) with
  accessFlags := 1057
  interfaces := #[3, 4, 5]
  cf := some (fileOf pool6 2 #[.nestMembers #[106]] #[{ accessFlags := 17, nameIndex := 9, descriptorIndex := 126, attributes := #[] }] 1057 12 #[111, 113, 115] #[{ accessFlags := 18, nameIndex := 5, descriptorIndex := 6, attributes := #[] }, { accessFlags := 18, nameIndex := 9, descriptorIndex := 10, attributes := #[] }, { accessFlags := 2, nameIndex := 19, descriptorIndex := 10, attributes := #[] }])
  fields := #[{ name := "name", type := (.object "java/lang/String"), accessFlags := 18, slot := 0, constantValue := 0 }, { name := "ordinal", type := .int, accessFlags := 18, slot := 1, constantValue := 0 }, { name := "hash", type := .int, accessFlags := 2, slot := 2, constantValue := 0 }]
  methods := #[k6m0]
  instanceTypes := #[(.object "java/lang/String"), .int, .int]
  staticTypes := #[]
  resolved := Array.replicate 204 none
  statics := none }

def pool7 : Array CpInfo := pool [(2, .class_ 4), (1, u "com/example/tundra_ascent/tundraascent/core/RecordNamed"), (34, .class_ 40), (0, u "java/lang/Object")] 11

/-- com/example/tundra_ascent/tundraascent/core/RecordNamed -/
def k7 : Class := { plain "com/example/tundra_ascent/tundraascent/core/RecordNamed" (some 0) with
  accessFlags := 1537
  interfaces := #[]
  cf := some (fileOf pool7 2 #[] #[] 1537 39 #[] #[])
  fields := #[]
  methods := #[]
  instanceTypes := #[]
  staticTypes := #[]
  resolved := Array.replicate 52 none
  statics := none }

def pool8 : Array CpInfo := pool [(1, .class_ 2), (0, u "com/example/tundra_ascent/tundraascent/rules/Animal"), (2, u "MAMMALS"), (0, u "Lcom/example/tundra_ascent/tundraascent/rules/Animal;"), (2, u "REPTILES"), (2, u "BIRDS"), (2, u "AMPHIBIANS"), (2, u "ARACHNIDS"), (2, u "INSECTS"), (2, u "$VALUES"), (0, u "[Lcom/example/tundra_ascent/tundraascent/rules/Animal;"), (6, .class_ 34), (1, u "java/lang/Enum"), (8, u "printedElements"), (0, u "Ljava/util/List;"), (2, u "startingSpecies"), (1, .class_ 51), (1, u "com/example/tundra_ascent/tundraascent/core/RecordNamed")] 107

/-- com/example/tundra_ascent/tundraascent/rules/Animal -/
def k8 : Class := { plain "com/example/tundra_ascent/tundraascent/rules/Animal" (some 6) with
  accessFlags := 16433
  interfaces := #[7]
  cf := some (fileOf pool8 1 #[] #[] 16433 32 #[49] #[{ accessFlags := 16409, nameIndex := 5, descriptorIndex := 6, attributes := #[] }, { accessFlags := 16409, nameIndex := 9, descriptorIndex := 6, attributes := #[] }, { accessFlags := 16409, nameIndex := 12, descriptorIndex := 6, attributes := #[] }, { accessFlags := 16409, nameIndex := 15, descriptorIndex := 6, attributes := #[] }, { accessFlags := 16409, nameIndex := 18, descriptorIndex := 6, attributes := #[] }, { accessFlags := 16409, nameIndex := 21, descriptorIndex := 6, attributes := #[] }, { accessFlags := 18, nameIndex := 43, descriptorIndex := 44, attributes := #[] }, { accessFlags := 18, nameIndex := 47, descriptorIndex := 44, attributes := #[] }, { accessFlags := 4122, nameIndex := 24, descriptorIndex := 25, attributes := #[] }])
  fields := #[{ name := "MAMMALS", type := (.object "com/example/tundra_ascent/tundraascent/rules/Animal"), accessFlags := 16409, slot := 0, constantValue := 0 }, { name := "REPTILES", type := (.object "com/example/tundra_ascent/tundraascent/rules/Animal"), accessFlags := 16409, slot := 1, constantValue := 0 }, { name := "BIRDS", type := (.object "com/example/tundra_ascent/tundraascent/rules/Animal"), accessFlags := 16409, slot := 2, constantValue := 0 }, { name := "AMPHIBIANS", type := (.object "com/example/tundra_ascent/tundraascent/rules/Animal"), accessFlags := 16409, slot := 3, constantValue := 0 }, { name := "ARACHNIDS", type := (.object "com/example/tundra_ascent/tundraascent/rules/Animal"), accessFlags := 16409, slot := 4, constantValue := 0 }, { name := "INSECTS", type := (.object "com/example/tundra_ascent/tundraascent/rules/Animal"), accessFlags := 16409, slot := 5, constantValue := 0 }, { name := "printedElements", type := (.object "java/util/List"), accessFlags := 18, slot := 3, constantValue := 0 }, { name := "startingSpecies", type := (.object "java/util/List"), accessFlags := 18, slot := 4, constantValue := 0 }, { name := "$VALUES", type := (.array (.object "com/example/tundra_ascent/tundraascent/rules/Animal")), accessFlags := 4122, slot := 6, constantValue := 0 }]
  methods := #[]
  instanceTypes := #[(.object "java/lang/String"), .int, .int, (.object "java/util/List"), (.object "java/util/List")]
  staticTypes := #[(.object "com/example/tundra_ascent/tundraascent/rules/Animal"), (.object "com/example/tundra_ascent/tundraascent/rules/Animal"), (.object "com/example/tundra_ascent/tundraascent/rules/Animal"), (.object "com/example/tundra_ascent/tundraascent/rules/Animal"), (.object "com/example/tundra_ascent/tundraascent/rules/Animal"), (.object "com/example/tundra_ascent/tundraascent/rules/Animal"), (.array (.object "com/example/tundra_ascent/tundraascent/rules/Animal"))]
  resolved := Array.replicate 159 none
  statics := some 1 }

def pool9 : Array CpInfo := pool [(1, .class_ 2), (0, u "com/example/tundra_ascent/tundraascent/rules/Section"), (2, u "INITIATIVE"), (0, u "Lcom/example/tundra_ascent/tundraascent/rules/Section;"), (2, u "ADAPTATION"), (2, u "REGRESSION"), (2, u "ABUNDANCE"), (2, u "WASTELAND"), (2, u "DEPLETION"), (2, u "GLACIATION"), (2, u "SPECIATION"), (2, u "WANDERLUST"), (2, u "MIGRATION"), (2, u "COMPETITION"), (2, u "DOMINATION"), (2, u "$VALUES"), (0, u "[Lcom/example/tundra_ascent/tundraascent/rules/Section;"), (6, .class_ 52), (1, u "java/lang/Enum"), (6, .fieldref 1 60), (0, .nameAndType 61 62), (0, u "eyeballSpaces"), (0, u "I"), (38, .class_ 102), (0, u "com/example/tundra_ascent/tundraascent/core/RecordNamed"), (7, u "()I")] 13

def k9c0 : Code := { maxStack := 1, maxLocals := 1, code := prog_29_method_4_code, exceptionTable := #[], attributes := #[] }
def k9m0 : Method := { name := "eyeballSpaces", desc := "()I", sig := { parameters := [], returnType := some .int }, accessFlags := 0, code := some k9c0 }
/-- com/example/tundra_ascent/tundraascent/rules/Section -/
def k9 : Class := { plain "com/example/tundra_ascent/tundraascent/rules/Section" (some 6) with
  accessFlags := 16432
  interfaces := #[7]
  cf := some (fileOf pool9 1 #[] #[{ accessFlags := 0, nameIndex := 61, descriptorIndex := 110, attributes := #[] }] 16432 50 #[101] #[{ accessFlags := 16409, nameIndex := 5, descriptorIndex := 6, attributes := #[] }, { accessFlags := 16409, nameIndex := 9, descriptorIndex := 6, attributes := #[] }, { accessFlags := 16409, nameIndex := 12, descriptorIndex := 6, attributes := #[] }, { accessFlags := 16409, nameIndex := 15, descriptorIndex := 6, attributes := #[] }, { accessFlags := 16409, nameIndex := 18, descriptorIndex := 6, attributes := #[] }, { accessFlags := 16409, nameIndex := 21, descriptorIndex := 6, attributes := #[] }, { accessFlags := 16409, nameIndex := 24, descriptorIndex := 6, attributes := #[] }, { accessFlags := 16409, nameIndex := 27, descriptorIndex := 6, attributes := #[] }, { accessFlags := 16409, nameIndex := 30, descriptorIndex := 6, attributes := #[] }, { accessFlags := 16409, nameIndex := 33, descriptorIndex := 6, attributes := #[] }, { accessFlags := 16409, nameIndex := 36, descriptorIndex := 6, attributes := #[] }, { accessFlags := 16409, nameIndex := 39, descriptorIndex := 6, attributes := #[] }, { accessFlags := 18, nameIndex := 61, descriptorIndex := 62, attributes := #[] }, { accessFlags := 4122, nameIndex := 42, descriptorIndex := 43, attributes := #[] }])
  fields := #[{ name := "INITIATIVE", type := (.object "com/example/tundra_ascent/tundraascent/rules/Section"), accessFlags := 16409, slot := 0, constantValue := 0 }, { name := "ADAPTATION", type := (.object "com/example/tundra_ascent/tundraascent/rules/Section"), accessFlags := 16409, slot := 1, constantValue := 0 }, { name := "REGRESSION", type := (.object "com/example/tundra_ascent/tundraascent/rules/Section"), accessFlags := 16409, slot := 2, constantValue := 0 }, { name := "ABUNDANCE", type := (.object "com/example/tundra_ascent/tundraascent/rules/Section"), accessFlags := 16409, slot := 3, constantValue := 0 }, { name := "WASTELAND", type := (.object "com/example/tundra_ascent/tundraascent/rules/Section"), accessFlags := 16409, slot := 4, constantValue := 0 }, { name := "DEPLETION", type := (.object "com/example/tundra_ascent/tundraascent/rules/Section"), accessFlags := 16409, slot := 5, constantValue := 0 }, { name := "GLACIATION", type := (.object "com/example/tundra_ascent/tundraascent/rules/Section"), accessFlags := 16409, slot := 6, constantValue := 0 }, { name := "SPECIATION", type := (.object "com/example/tundra_ascent/tundraascent/rules/Section"), accessFlags := 16409, slot := 7, constantValue := 0 }, { name := "WANDERLUST", type := (.object "com/example/tundra_ascent/tundraascent/rules/Section"), accessFlags := 16409, slot := 8, constantValue := 0 }, { name := "MIGRATION", type := (.object "com/example/tundra_ascent/tundraascent/rules/Section"), accessFlags := 16409, slot := 9, constantValue := 0 }, { name := "COMPETITION", type := (.object "com/example/tundra_ascent/tundraascent/rules/Section"), accessFlags := 16409, slot := 10, constantValue := 0 }, { name := "DOMINATION", type := (.object "com/example/tundra_ascent/tundraascent/rules/Section"), accessFlags := 16409, slot := 11, constantValue := 0 }, { name := "eyeballSpaces", type := .int, accessFlags := 18, slot := 3, constantValue := 0 }, { name := "$VALUES", type := (.array (.object "com/example/tundra_ascent/tundraascent/rules/Section")), accessFlags := 4122, slot := 12, constantValue := 0 }]
  methods := #[k9m0]
  instanceTypes := #[(.object "java/lang/String"), .int, .int, .int]
  staticTypes := #[(.object "com/example/tundra_ascent/tundraascent/rules/Section"), (.object "com/example/tundra_ascent/tundraascent/rules/Section"), (.object "com/example/tundra_ascent/tundraascent/rules/Section"), (.object "com/example/tundra_ascent/tundraascent/rules/Section"), (.object "com/example/tundra_ascent/tundraascent/rules/Section"), (.object "com/example/tundra_ascent/tundraascent/rules/Section"), (.object "com/example/tundra_ascent/tundraascent/rules/Section"), (.object "com/example/tundra_ascent/tundraascent/rules/Section"), (.object "com/example/tundra_ascent/tundraascent/rules/Section"), (.object "com/example/tundra_ascent/tundraascent/rules/Section"), (.object "com/example/tundra_ascent/tundraascent/rules/Section"), (.object "com/example/tundra_ascent/tundraascent/rules/Section"), (.array (.object "com/example/tundra_ascent/tundraascent/rules/Section"))]
  resolved := Array.replicate 124 none
  statics := some 2 }

def pool10 : Array CpInfo := pool [(2, .class_ 4), (1, u "java/lang/Object"), (0, u "<init>"), (0, u "()V"), (35, .class_ 44), (1, u "java/util/Objects"), (60, .methodref 106 107), (0, .class_ 108), (0, .nameAndType 109 110), (0, u "jdk/internal/util/Preconditions"), (0, u "checkIndex"), (0, u "(IILjava/util/function/BiFunction;)I"), (60, u "(II)I")] 12

def k10m0 : Method := { name := "<init>", desc := "()V", sig := { parameters := [], returnType := none }, accessFlags := 2, code := none }
def k10c1 : Code := { maxStack := 3, maxLocals := 2, code := jdk_31_method_17_code, exceptionTable := #[], attributes := #[] }
def k10m1 : Method := { name := "checkIndex", desc := "(II)I", sig := { parameters := [.int, .int], returnType := some .int }, accessFlags := 9, code := some k10c1 }
/-- java/util/Objects -/
def k10 : Class := { plain "java/util/Objects" (some 0) with
  accessFlags := 49
  interfaces := #[]
  cf := some (fileOf pool10 42 #[] #[{ accessFlags := 2, nameIndex := 5, descriptorIndex := 6, attributes := #[] }, { accessFlags := 9, nameIndex := 109, descriptorIndex := 171, attributes := #[] }] 49 2 #[] #[])
  fields := #[]
  methods := #[k10m0, k10m1]
  instanceTypes := #[]
  staticTypes := #[]
  resolved := Array.replicate 184 none
  statics := none }

def pool11 : Array CpInfo := pool [(2, .class_ 4), (1, u "java/lang/Object"), (0, u "<init>"), (0, u "()V"), (17, .class_ 26), (1, u "jdk/internal/util/Preconditions"), (6, u "checkIndex"), (21, .class_ 56), (0, u "jdk/internal/util/Preconditions$4"), (57, .class_ 115), (0, u "jdk/internal/util/Preconditions$1"), (7, u "SIOOBE_FORMATTER"), (0, u "Ljava/util/function/BiFunction;"), (0, .class_ 126), (0, u "jdk/internal/util/Preconditions$2"), (3, u "AIOOBE_FORMATTER"), (0, .class_ 132), (0, u "jdk/internal/util/Preconditions$3"), (3, u "IOOBE_FORMATTER"), (41, u "(IILjava/util/function/BiFunction;)I")] 15

def k11m0 : Method := { name := "<init>", desc := "()V", sig := { parameters := [], returnType := none }, accessFlags := 1, code := none }
def k11c1 : Code := { maxStack := 3, maxLocals := 3, code := jdk_41_method_11_code, exceptionTable := #[], attributes := #[] }
def k11m1 : Method := { name := "checkIndex", desc := "(IILjava/util/function/BiFunction;)I", sig := { parameters := [.int, .int, (.object "java/util/function/BiFunction")], returnType := some .int }, accessFlags := 9, code := some k11c1 }
/-- jdk/internal/util/Preconditions -/
def k11 : Class := { plain "jdk/internal/util/Preconditions" (some 0) with
  accessFlags := 33
  interfaces := #[]
  cf := some (fileOf pool11 24 #[.nestMembers #[55, 131, 125, 114]] #[{ accessFlags := 1, nameIndex := 5, descriptorIndex := 6, attributes := #[] }, { accessFlags := 9, nameIndex := 33, descriptorIndex := 178, attributes := #[] }] 33 2 #[] #[{ accessFlags := 25, nameIndex := 123, descriptorIndex := 124, attributes := #[] }, { accessFlags := 25, nameIndex := 130, descriptorIndex := 124, attributes := #[] }, { accessFlags := 25, nameIndex := 136, descriptorIndex := 124, attributes := #[] }])
  fields := #[{ name := "SIOOBE_FORMATTER", type := (.object "java/util/function/BiFunction"), accessFlags := 25, slot := 0, constantValue := 0 }, { name := "AIOOBE_FORMATTER", type := (.object "java/util/function/BiFunction"), accessFlags := 25, slot := 1, constantValue := 0 }, { name := "IOOBE_FORMATTER", type := (.object "java/util/function/BiFunction"), accessFlags := 25, slot := 2, constantValue := 0 }]
  methods := #[k11m0, k11m1]
  instanceTypes := #[]
  staticTypes := #[(.object "java/util/function/BiFunction"), (.object "java/util/function/BiFunction"), (.object "java/util/function/BiFunction")]
  resolved := Array.replicate 194 none
  statics := none }

def pool12 : Array CpInfo := pool [(1, u "java/lang/Cloneable"), (0, .class_ 1), (0, u "java/lang/Object"), (0, .class_ 3)] 3

/-- java/lang/Cloneable -/
def k12 : Class := { plain "java/lang/Cloneable" (some 0) with
  accessFlags := 1537
  interfaces := #[]
  cf := some (fileOf pool12 2 #[] #[] 1537 4 #[] #[])
  fields := #[]
  methods := #[]
  instanceTypes := #[]
  staticTypes := #[]
  resolved := Array.replicate 8 none
  statics := none }

/-- the primitive byte -/
def k13 : Class := { plain "byte" none with kind := .primitive 'B', accessFlags := 0x411 }
/-- [B -/
def k14 : Class := { plain "[B" (some 0) with kind := .array 13 .byte, interfaces := #[12, 5], accessFlags := 1041 }

/-- the primitive int -/
def k15 : Class := { plain "int" none with kind := .primitive 'I', accessFlags := 0x411 }
/-- [I -/
def k16 : Class := { plain "[I" (some 0) with kind := .array 15 .int, interfaces := #[12, 5], accessFlags := 1041 }

/-- [Lcom/example/tundra_ascent/tundraascent/rules/Animal; -/
def k17 : Class := { plain "[Lcom/example/tundra_ascent/tundraascent/rules/Animal;" (some 0) with kind := .array 8 (.object "com/example/tundra_ascent/tundraascent/rules/Animal"), interfaces := #[12, 5], accessFlags := 1041 }

def heap : Heap := #[{ cls := 2, slots := #[.int 41, .ref 21, .null, .null], vm := .statics 2 },
  { cls := 8, slots := #[.ref 3, .ref 4, .ref 5, .ref 6, .ref 7, .ref 8, .null], vm := .statics 8 },
  { cls := 9, slots := #[.ref 9, .ref 10, .ref 11, .ref 12, .ref 13, .ref 14, .ref 15, .ref 16, .ref 17, .ref 18, .ref 19, .ref 20, .null], vm := .statics 9 },
  { cls := 8, slots := #[.null, .int 0, .int 0, .null, .null], vm := .none },
  { cls := 8, slots := #[.null, .int 1, .int 0, .null, .null], vm := .none },
  { cls := 8, slots := #[.null, .int 2, .int 0, .null, .null], vm := .none },
  { cls := 8, slots := #[.null, .int 3, .int 0, .null, .null], vm := .none },
  { cls := 8, slots := #[.null, .int 4, .int 0, .null, .null], vm := .none },
  { cls := 8, slots := #[.null, .int 5, .int 0, .null, .null], vm := .none },
  { cls := 9, slots := #[.null, .int 0, .int 0, .int 1], vm := .none },
  { cls := 9, slots := #[.null, .int 1, .int 0, .int 3], vm := .none },
  { cls := 9, slots := #[.null, .int 2, .int 0, .int 2], vm := .none },
  { cls := 9, slots := #[.null, .int 3, .int 0, .int 2], vm := .none },
  { cls := 9, slots := #[.null, .int 4, .int 0, .int 1], vm := .none },
  { cls := 9, slots := #[.null, .int 5, .int 0, .int 1], vm := .none },
  { cls := 9, slots := #[.null, .int 6, .int 0, .int 4], vm := .none },
  { cls := 9, slots := #[.null, .int 7, .int 0, .int 6], vm := .none },
  { cls := 9, slots := #[.null, .int 8, .int 0, .int 3], vm := .none },
  { cls := 9, slots := #[.null, .int 9, .int 0, .int 6], vm := .none },
  { cls := 9, slots := #[.null, .int 10, .int 0, .int 7], vm := .none },
  { cls := 9, slots := #[.null, .int 11, .int 0, .int 5], vm := .none },
  { cls := 16, slots := #[.int 0, .int 1, .int 4, .int 6, .int 8, .int 9, .int 10, .int 14, .int 20, .int 23, .int 29, .int 36], vm := .none }]
def classes : Array Class := #[k0, k1, k2, k3, k4, k5, k6, k7, k8, k9, k10, k11, k12, k13, k14, k15, k16, k17]
def interned : List (Array UInt16 × Addr) := []
def slotsUsed : Nat := 114
def theMethod : MethodId := ⟨1, 9⟩
def args0 : Array Value := #[.int 5, .int 5, .int 5, .int 5, .int 5]
def aboutOver (below : List Frame) : State where
  vm := { classes := classes, interned := interned.toArray }
  heap := heap
  slotsUsed := slotsUsed
  threads := #[{ frames := .invoking theMethod args0 :: below }]
def below0 : List Frame := [.native { method := ⟨0, 0⟩, args := #[] }]
def about1 : State := aboutOver below0
def p0 : Program := .bare "" "" ""
def e0 : Env := launch0.env 0 0 0
theorem w_frames : about1.frames = Frame.invoking theMethod args0 :: below0 := rfl
set_option maxRecDepth 65536 in
theorem w_args : argsFit about1.vm theMethod args0 = true := by decide +kernel
set_option maxRecDepth 65536 in
theorem w_heap : heapFits about1 = true := by decide +kernel
set_option maxRecDepth 65536 in
theorem w_runnable : about1.curStatus? = some .runnable := by decide +kernel
set_option maxRecDepth 65536 in
theorem w_alone : about1.alone = true := by decide +kernel
set_option maxRecDepth 65536 in
theorem w_named : about1.methodNamed? x = some theMethod := by decide +kernel
set_option maxRecDepth 65536 in
theorem w_hears : about1.hears theMethod below0 = true := by decide +kernel
set_option maxRecDepth 65536 in
theorem w_ripe : about1.ripe theMethod args0 below0 = true := by decide +kernel
theorem w_running : about1.status = .running := rfl
set_option maxRecDepth 65536 in
theorem w_room : about1.hasRoom e0.platform room_1 = true :=
  launch0.hasRoom_least _ room_1 (by decide +kernel) (by decide +kernel) (by decide +kernel) (by decide +kernel) (by decide +kernel) (by decide +kernel)
theorem allAtoms_all (ts : List Jvm.Cond) (a : Array Jvm.Value) (st : Jvm.State) : (allAtoms ts).before a st = ts.all (fun c => c.before a st) := by
  induction ts with
  | nil => rfl
  | cons c t ih =>
    show (Jvm.Cond.and c (allAtoms t)).before a st = _
    rw [Jvm.Cond.before_and, ih, List.all_cons]
def words1 : List Jvm.Cond := Jvm.Cond.code x code maxLocals ret :: tables_1
/-- a 'code' word, met by the world's own term for the bytes: nothing is compared byte by byte -/
theorem code_word {y : MethodName} {bytes : ByteArray} {mx : Nat} {rt : Option FieldType} {a : Array Value} {s : State} {m : MethodId} {meth : Method} {c : Code} (h1 : s.methodNamed? y = some m) (h2 : s.vm.method? m = some meth) (h3 : meth.code = some c) (h4 : c.code = bytes)
    (h5 : (c.maxLocals == mx && c.exceptionTable.isEmpty && decide (c.maxStack ≤ mostOperands) && decide (meth.sig.returnType = rt) && !meth.locks && decide (parseMethodDescriptor y.desc = some meth.sig)) = true) : (Jvm.Cond.code y bytes mx rt).before a s = true := by
  simp only [Bool.and_eq_true, beq_iff_eq, Bool.not_eq_true', decide_eq_true_eq] at h5
  obtain ⟨⟨⟨⟨⟨g1, g2⟩, g3⟩, g4⟩, g5⟩, g6⟩ := h5
  simp [Cond.before, Cond.holds, Cond.value, h1, h2, h3, h4, g1, g2, g3, g4, g5, g6]
def isCode : Jvm.Cond → Bool
  | .code _ _ _ _ => true
  | _ => false
theorem all_split {L : List Jvm.Cond} {P : Jvm.Cond → Bool} (h1 : L.all (fun c => isCode c || P c) = true) (h2 : ∀ c ∈ L.filter isCode, P c = true) : L.all P = true := by
  refine List.all_eq_true.mpr fun c hc => ?_
  have h := List.all_eq_true.mp h1 c hc
  rcases Bool.eq_false_or_eq_true (isCode c) with hi | hi
  · exact h2 c (List.mem_filter.mpr ⟨hc, hi⟩)
  · simpa [hi] using h
set_option maxRecDepth 65536 in
theorem w_c0 : (Jvm.Cond.code x code maxLocals ret).before args0 about1 = true := code_word (m := ⟨1, 9⟩) (meth := k1m9) (c := k1c9) (by decide +kernel) rfl rfl rfl (by decide +kernel)
set_option maxRecDepth 65536 in
theorem w_c1 : (Jvm.Cond.code ({ cls := "com/example/tundra_ascent/tundraascent/rules/DisplayPawnsOfPinLaw", name := "sec", desc := "(I)I" } : Jvm.MethodName) method_5_code (1 : Nat) (Option.some Jvm.ClassFile.FieldType.int)).before args0 about1 = true := code_word (m := ⟨1, 4⟩) (meth := k1m4) (c := k1c4) (by decide +kernel) rfl rfl rfl (by decide +kernel)
set_option maxRecDepth 65536 in
theorem w_c2 : (Jvm.Cond.code ({ cls := "com/example/tundra_ascent/tundraascent/rules/DisplayPawnsOfPinLaw", name := "space", desc := "(II)I" } : Jvm.MethodName) method_6_code (2 : Nat) (Option.some Jvm.ClassFile.FieldType.int)).before args0 about1 = true := code_word (m := ⟨1, 5⟩) (meth := k1m5) (c := k1c5) (by decide +kernel) rfl rfl rfl (by decide +kernel)
set_option maxRecDepth 65536 in
theorem w_c3 : (Jvm.Cond.code ({ cls := "com/example/tundra_ascent/tundraascent/rules/DisplayPawnsOfPinLaw", name := "size", desc := "(I)I" } : Jvm.MethodName) method_2_code (2 : Nat) (Option.some Jvm.ClassFile.FieldType.int)).before args0 about1 = true := code_word (m := ⟨1, 1⟩) (meth := k1m1) (c := k1c1) (by decide +kernel) rfl rfl rfl (by decide +kernel)
set_option maxRecDepth 65536 in
theorem w_c4 : (Jvm.Cond.code ({ cls := "com/example/tundra_ascent/tundraascent/rules/DisplayPawnsOfPinLaw", name := "ani", desc := "(I)I" } : Jvm.MethodName) method_7_code (1 : Nat) (Option.some Jvm.ClassFile.FieldType.int)).before args0 about1 = true := code_word (m := ⟨1, 6⟩) (meth := k1m6) (c := k1c6) (by decide +kernel) rfl rfl rfl (by decide +kernel)
set_option maxRecDepth 65536 in
theorem w_c5 : (Jvm.Cond.code ({ cls := "com/example/tundra_ascent/tundraascent/rules/DisplayPawnsOfPinLaw", name := "flag", desc := "(I)Z" } : Jvm.MethodName) method_8_code (1 : Nat) (Option.some Jvm.ClassFile.FieldType.boolean)).before args0 about1 = true := code_word (m := ⟨1, 7⟩) (meth := k1m7) (c := k1c7) (by decide +kernel) rfl rfl rfl (by decide +kernel)
set_option maxRecDepth 65536 in
theorem w_c6 : (Jvm.Cond.code ({ cls := "com/example/tundra_ascent/tundraascent/rules/Display", name := "<init>", desc := "()V" } : Jvm.MethodName) prog_15_method_1_code (1 : Nat) (Option.none : Option Jvm.ClassFile.FieldType)).before args0 about1 = true := code_word (m := ⟨2, 0⟩) (meth := k2m0) (c := k2c0) (by decide +kernel) rfl rfl rfl (by decide +kernel)
set_option maxRecDepth 65536 in
theorem w_c7 : (Jvm.Cond.code ({ cls := "java/lang/Object", name := "<init>", desc := "()V" } : Jvm.MethodName) object_method_1_code (1 : Nat) (Option.none : Option Jvm.ClassFile.FieldType)).before args0 about1 = true := code_word (m := ⟨0, 0⟩) (meth := k0m0) (c := k0c0) (by decide +kernel) rfl rfl rfl (by decide +kernel)
set_option maxRecDepth 65536 in
theorem w_c8 : (Jvm.Cond.code ({ cls := "com/example/tundra_ascent/tundraascent/rules/DisplayPawnsOfPinLaw", name := "one", desc := "(ZII)I" } : Jvm.MethodName) method_9_code (3 : Nat) (Option.some Jvm.ClassFile.FieldType.int)).before args0 about1 = true := code_word (m := ⟨1, 8⟩) (meth := k1m8) (c := k1c8) (by decide +kernel) rfl rfl rfl (by decide +kernel)
set_option maxRecDepth 65536 in
theorem w_c9 : (Jvm.Cond.code ({ cls := "com/example/tundra_ascent/tundraascent/rules/DisplayPawnsOfPinLaw", name := "animal", desc := "(I)Lcom/example/tundra_ascent/tundraascent/rules/Animal;" } : Jvm.MethodName) method_4_code (1 : Nat) (Option.some (Jvm.ClassFile.FieldType.object "com/example/tundra_ascent/tundraascent/rules/Animal"))).before args0 about1 = true := code_word (m := ⟨1, 3⟩) (meth := k1m3) (c := k1c3) (by decide +kernel) rfl rfl rfl (by decide +kernel)
set_option maxRecDepth 65536 in
theorem w_c10 : (Jvm.Cond.code ({ cls := "com/example/tundra_ascent/tundraascent/rules/Display", name := "pawnsOf", desc := "(Lcom/example/tundra_ascent/tundraascent/rules/Animal;)I" } : Jvm.MethodName) prog_15_method_7_code (7 : Nat) (Option.some Jvm.ClassFile.FieldType.int)).before args0 about1 = true := code_word (m := ⟨2, 2⟩) (meth := k2m2) (c := k2c2) (by decide +kernel) rfl rfl rfl (by decide +kernel)
set_option maxRecDepth 65536 in
theorem w_c11 : (Jvm.Cond.code ({ cls := "com/example/tundra_ascent/tundraascent/rules/DisplayPawnsOfPinLaw", name := "section", desc := "(I)Lcom/example/tundra_ascent/tundraascent/rules/Section;" } : Jvm.MethodName) method_3_code (1 : Nat) (Option.some (Jvm.ClassFile.FieldType.object "com/example/tundra_ascent/tundraascent/rules/Section"))).before args0 about1 = true := code_word (m := ⟨1, 2⟩) (meth := k1m2) (c := k1c2) (by decide +kernel) rfl rfl rfl (by decide +kernel)
set_option maxRecDepth 65536 in
theorem w_c12 : (Jvm.Cond.code ({ cls := "com/example/tundra_ascent/tundraascent/rules/Display", name := "place", desc := "(Lcom/example/tundra_ascent/tundraascent/rules/Section;ILcom/example/tundra_ascent/tundraascent/rules/Animal;)V" } : Jvm.MethodName) prog_15_method_8_code (5 : Nat) (Option.none : Option Jvm.ClassFile.FieldType)).before args0 about1 = true := code_word (m := ⟨2, 3⟩) (meth := k2m3) (c := k2c3) (by decide +kernel) rfl rfl rfl (by decide +kernel)
set_option maxRecDepth 65536 in
theorem w_c13 : (Jvm.Cond.code ({ cls := "com/example/tundra_ascent/tundraascent/rules/Display", name := "owner", desc := "(Lcom/example/tundra_ascent/tundraascent/rules/Section;I)Lcom/example/tundra_ascent/tundraascent/rules/Animal;" } : Jvm.MethodName) prog_15_method_5_code (3 : Nat) (Option.some (Jvm.ClassFile.FieldType.object "com/example/tundra_ascent/tundraascent/rules/Animal"))).before args0 about1 = true := code_word (m := ⟨2, 1⟩) (meth := k2m1) (c := k2c1) (by decide +kernel) rfl rfl rfl (by decide +kernel)
set_option maxRecDepth 65536 in
theorem w_c14 : (Jvm.Cond.code ({ cls := "com/example/tundra_ascent/tundraascent/rules/Display", name := "index", desc := "(Lcom/example/tundra_ascent/tundraascent/rules/Section;I)I" } : Jvm.MethodName) prog_15_method_13_code (2 : Nat) (Option.some Jvm.ClassFile.FieldType.int)).before args0 about1 = true := code_word (m := ⟨2, 4⟩) (meth := k2m4) (c := k2c4) (by decide +kernel) rfl rfl rfl (by decide +kernel)
set_option maxRecDepth 65536 in
theorem w_c15 : (Jvm.Cond.code ({ cls := "java/lang/Enum", name := "ordinal", desc := "()I" } : Jvm.MethodName) jdk_37_method_2_code (1 : Nat) (Option.some Jvm.ClassFile.FieldType.int)).before args0 about1 = true := code_word (m := ⟨6, 0⟩) (meth := k6m0) (c := k6c0) (by decide +kernel) rfl rfl rfl (by decide +kernel)
set_option maxRecDepth 65536 in
theorem w_c16 : (Jvm.Cond.code ({ cls := "com/example/tundra_ascent/tundraascent/rules/Section", name := "eyeballSpaces", desc := "()I" } : Jvm.MethodName) prog_29_method_4_code (1 : Nat) (Option.some Jvm.ClassFile.FieldType.int)).before args0 about1 = true := code_word (m := ⟨9, 0⟩) (meth := k9m0) (c := k9c0) (by decide +kernel) rfl rfl rfl (by decide +kernel)
set_option maxRecDepth 65536 in
theorem w_c17 : (Jvm.Cond.code ({ cls := "java/util/Objects", name := "checkIndex", desc := "(II)I" } : Jvm.MethodName) jdk_31_method_17_code (2 : Nat) (Option.some Jvm.ClassFile.FieldType.int)).before args0 about1 = true := code_word (m := ⟨10, 1⟩) (meth := k10m1) (c := k10c1) (by decide +kernel) rfl rfl rfl (by decide +kernel)
set_option maxRecDepth 65536 in
theorem w_c18 : (Jvm.Cond.code ({ cls := "jdk/internal/util/Preconditions", name := "checkIndex", desc := "(IILjava/util/function/BiFunction;)I" } : Jvm.MethodName) jdk_41_method_11_code (3 : Nat) (Option.some Jvm.ClassFile.FieldType.int)).before args0 about1 = true := code_word (m := ⟨11, 1⟩) (meth := k11m1) (c := k11c1) (by decide +kernel) rfl rfl rfl (by decide +kernel)
def codes1 : List Jvm.Cond := [Jvm.Cond.code x code maxLocals ret, Jvm.Cond.code ({ cls := "com/example/tundra_ascent/tundraascent/rules/DisplayPawnsOfPinLaw", name := "sec", desc := "(I)I" } : Jvm.MethodName) method_5_code (1 : Nat) (Option.some Jvm.ClassFile.FieldType.int), Jvm.Cond.code ({ cls := "com/example/tundra_ascent/tundraascent/rules/DisplayPawnsOfPinLaw", name := "space", desc := "(II)I" } : Jvm.MethodName) method_6_code (2 : Nat) (Option.some Jvm.ClassFile.FieldType.int), Jvm.Cond.code ({ cls := "com/example/tundra_ascent/tundraascent/rules/DisplayPawnsOfPinLaw", name := "size", desc := "(I)I" } : Jvm.MethodName) method_2_code (2 : Nat) (Option.some Jvm.ClassFile.FieldType.int), Jvm.Cond.code ({ cls := "com/example/tundra_ascent/tundraascent/rules/DisplayPawnsOfPinLaw", name := "ani", desc := "(I)I" } : Jvm.MethodName) method_7_code (1 : Nat) (Option.some Jvm.ClassFile.FieldType.int), Jvm.Cond.code ({ cls := "com/example/tundra_ascent/tundraascent/rules/DisplayPawnsOfPinLaw", name := "flag", desc := "(I)Z" } : Jvm.MethodName) method_8_code (1 : Nat) (Option.some Jvm.ClassFile.FieldType.boolean), Jvm.Cond.code ({ cls := "com/example/tundra_ascent/tundraascent/rules/Display", name := "<init>", desc := "()V" } : Jvm.MethodName) prog_15_method_1_code (1 : Nat) (Option.none : Option Jvm.ClassFile.FieldType), Jvm.Cond.code ({ cls := "java/lang/Object", name := "<init>", desc := "()V" } : Jvm.MethodName) object_method_1_code (1 : Nat) (Option.none : Option Jvm.ClassFile.FieldType), Jvm.Cond.code ({ cls := "com/example/tundra_ascent/tundraascent/rules/DisplayPawnsOfPinLaw", name := "one", desc := "(ZII)I" } : Jvm.MethodName) method_9_code (3 : Nat) (Option.some Jvm.ClassFile.FieldType.int), Jvm.Cond.code ({ cls := "com/example/tundra_ascent/tundraascent/rules/DisplayPawnsOfPinLaw", name := "animal", desc := "(I)Lcom/example/tundra_ascent/tundraascent/rules/Animal;" } : Jvm.MethodName) method_4_code (1 : Nat) (Option.some (Jvm.ClassFile.FieldType.object "com/example/tundra_ascent/tundraascent/rules/Animal")), Jvm.Cond.code ({ cls := "com/example/tundra_ascent/tundraascent/rules/Display", name := "pawnsOf", desc := "(Lcom/example/tundra_ascent/tundraascent/rules/Animal;)I" } : Jvm.MethodName) prog_15_method_7_code (7 : Nat) (Option.some Jvm.ClassFile.FieldType.int), Jvm.Cond.code ({ cls := "com/example/tundra_ascent/tundraascent/rules/DisplayPawnsOfPinLaw", name := "section", desc := "(I)Lcom/example/tundra_ascent/tundraascent/rules/Section;" } : Jvm.MethodName) method_3_code (1 : Nat) (Option.some (Jvm.ClassFile.FieldType.object "com/example/tundra_ascent/tundraascent/rules/Section")), Jvm.Cond.code ({ cls := "com/example/tundra_ascent/tundraascent/rules/Display", name := "place", desc := "(Lcom/example/tundra_ascent/tundraascent/rules/Section;ILcom/example/tundra_ascent/tundraascent/rules/Animal;)V" } : Jvm.MethodName) prog_15_method_8_code (5 : Nat) (Option.none : Option Jvm.ClassFile.FieldType), Jvm.Cond.code ({ cls := "com/example/tundra_ascent/tundraascent/rules/Display", name := "owner", desc := "(Lcom/example/tundra_ascent/tundraascent/rules/Section;I)Lcom/example/tundra_ascent/tundraascent/rules/Animal;" } : Jvm.MethodName) prog_15_method_5_code (3 : Nat) (Option.some (Jvm.ClassFile.FieldType.object "com/example/tundra_ascent/tundraascent/rules/Animal")), Jvm.Cond.code ({ cls := "com/example/tundra_ascent/tundraascent/rules/Display", name := "index", desc := "(Lcom/example/tundra_ascent/tundraascent/rules/Section;I)I" } : Jvm.MethodName) prog_15_method_13_code (2 : Nat) (Option.some Jvm.ClassFile.FieldType.int), Jvm.Cond.code ({ cls := "java/lang/Enum", name := "ordinal", desc := "()I" } : Jvm.MethodName) jdk_37_method_2_code (1 : Nat) (Option.some Jvm.ClassFile.FieldType.int), Jvm.Cond.code ({ cls := "com/example/tundra_ascent/tundraascent/rules/Section", name := "eyeballSpaces", desc := "()I" } : Jvm.MethodName) prog_29_method_4_code (1 : Nat) (Option.some Jvm.ClassFile.FieldType.int), Jvm.Cond.code ({ cls := "java/util/Objects", name := "checkIndex", desc := "(II)I" } : Jvm.MethodName) jdk_31_method_17_code (2 : Nat) (Option.some Jvm.ClassFile.FieldType.int), Jvm.Cond.code ({ cls := "jdk/internal/util/Preconditions", name := "checkIndex", desc := "(IILjava/util/function/BiFunction;)I" } : Jvm.MethodName) jdk_41_method_11_code (3 : Nat) (Option.some Jvm.ClassFile.FieldType.int)]
set_option maxRecDepth 65536 in
theorem codes_eq : words1.filter isCode = codes1 := rfl
theorem w_codes : ∀ c ∈ words1.filter isCode, c.before args0 about1 = true := by
  rw [codes_eq]
  intro c hc
  simp only [codes1, List.mem_cons, List.not_mem_nil, or_false] at hc
  rcases hc with rfl | rfl | rfl | rfl | rfl | rfl | rfl | rfl | rfl | rfl | rfl | rfl | rfl | rfl | rfl | rfl | rfl | rfl | rfl
  · exact w_c0
  · exact w_c1
  · exact w_c2
  · exact w_c3
  · exact w_c4
  · exact w_c5
  · exact w_c6
  · exact w_c7
  · exact w_c8
  · exact w_c9
  · exact w_c10
  · exact w_c11
  · exact w_c12
  · exact w_c13
  · exact w_c14
  · exact w_c15
  · exact w_c16
  · exact w_c17
  · exact w_c18
set_option maxRecDepth 65536 in
theorem w_t1 : (words1.take 24).all (fun c => isCode c || c.before args0 about1) = true := by decide +kernel
set_option maxRecDepth 65536 in
theorem w_t2 : ((words1.drop 24).take 24).all (fun c => isCode c || c.before args0 about1) = true := by decide +kernel
set_option maxRecDepth 65536 in
theorem w_t3 : (((words1.drop 24).drop 24).take 24).all (fun c => isCode c || c.before args0 about1) = true := by decide +kernel
set_option maxRecDepth 65536 in
theorem w_t4 : ((((words1.drop 24).drop 24).drop 24).take 24).all (fun c => isCode c || c.before args0 about1) = true := by decide +kernel
set_option maxRecDepth 65536 in
theorem w_t5 : (((((words1.drop 24).drop 24).drop 24).drop 24).take 24).all (fun c => isCode c || c.before args0 about1) = true := by decide +kernel
set_option maxRecDepth 65536 in
theorem w_t6 : (((((words1.drop 24).drop 24).drop 24).drop 24).drop 24).all (fun c => isCode c || c.before args0 about1) = true := by decide +kernel
theorem w_tables : (allAtoms (Jvm.Cond.code x code maxLocals ret :: tables_1)).before args0 about1 = true := by
  rw [allAtoms_all]
  show words1.all (fun c => c.before args0 about1) = true
  refine all_split ?_ w_codes
  rw [← List.take_append_drop 24 words1, List.all_append, w_t1, ← List.take_append_drop 24 (words1.drop 24), List.all_append, w_t2, ← List.take_append_drop 24 ((words1.drop 24).drop 24), List.all_append, w_t3, ← List.take_append_drop 24 (((words1.drop 24).drop 24).drop 24), List.all_append, w_t4, ← List.take_append_drop 24 ((((words1.drop 24).drop 24).drop 24).drop 24), List.all_append, w_t5, w_t6]
  rfl
set_option maxRecDepth 65536 in
theorem w_case : (Jvm.Cond.and given_1 narrow_1).before args0 about1 = true := by decide +kernel
theorem w_applies : (headSpec (Jvm.Cond.code x code maxLocals ret :: tables_1) room_1).applies x e0.platform about1 = true :=
  (Spec.applies_iff w_frames).mpr ⟨w_running, w_runnable, w_alone, w_named, w_hears, w_ripe, w_room, w_tables⟩
theorem atStart : AtStart classFile x code maxLocals ret World_1 tables_1 room_1 Calls_1 rest_1 Pre_1 launch0 p0 e0 about1 theMethod args0 below0 :=
  ⟨lists_1, trivial, launch0.admits_env _ _ _, launch0.least_env, fairChoices_fair.cas, fairChoices_fair.clock, w_frames, w_args, w_heap, w_applies, trivial, trivial, w_case⟩
end start1
theorem witness_1 : WitnessClaimed_1 := ⟨start1.p0, start1.e0, start1.about1, start1.theMethod, start1.args0, start1.below0, start1.atStart⟩
end Jvm.Pilot.@@N@@
