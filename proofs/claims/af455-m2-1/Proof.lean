import JvmDerived
import JvmDerived.Pilot.@@N@@Statement
import JvmDerived.Pilot.@@N@@Code
set_option linter.unusedVariables false
set_option linter.unusedSimpArgs false
namespace Jvm.OwnKit
open Sem ClassFile Op Lib Jvm.Stand Jvm.Free Jvm.LawKit Jvm.RoadKit
section Kit
variable {p : Program} {l : Launch} {e : Env} {R : Room} {s : State} {m : MethodId} {args : Array Value} {below : List Frame} {meth : Method} {c : Code} {T : State} {locs : List Loc} {cells slots : Nat} {Z : State} {a0 : Array Value} {h h0 : Heap} {kc ks : Nat} {Q : Option Value → Heap → List Loc → Prop}
/-- from this state the body comes to its end, and Q holds of what it returns, of the heap there and of the places written -/
def Go (p : Program) (e : Env) (below : List Frame) (s : State) (kc ks : Nat) (Q : Option Value → Heap → List Loc → Prop) (a : State) : Prop :=
  ∃ (t : State) (o : Outcome), Steps p.tables e below a t ∧ t.status = .running ∧ Ended t below o ∧ ∃ v L, o = .returned v ∧ Q v t.heap L ∧ FrameEnd s o t L kc ks
theorem Go.of {a b : State} (st : ∀ t, Steps p.tables e below b t → Steps p.tables e below a t) (k : Go p e below s kc ks Q b) : Go p e below s kc ks Q a := by
  obtain ⟨t, o, h, r⟩ := k
  exact ⟨t, o, st t h, r⟩
theorem pad (X : Stand p l e R s m args below meth c T locs cells slots) {cells' slots' : Nat} (hc : cells ≤ cells') (hs : slots ≤ slots') : Stand p l e R s m args below meth c T locs cells' slots' :=
  ⟨X.admits, X.cas, X.clock, X.frames, X.room, X.hears, X.method, X.code, X.here, X.tail, X.warmed, X.limits, X.bytes, X.same.mono hc hs⟩
theorem Go.leave (X : Stand p l e R s m args below meth c T locs cells slots) (hlk : meth.locks = false) {v : Option Value} (hv : meth.sig.returnType = none → v = none) {g : JFrame}
    (st : ∀ fs, (∀ (f : JFrame) (acts : List Action), f.method = m → f.locked = none → f.entered = [] → (doReturn e (T.setTop f) acts v).1 = T.setFrames fs) → Steps p.tables e below (T.setTop g) (T.setFrames fs))
    (hc : cells ≤ kc) (hs : slots ≤ ks) (q : Q v T.heap locs) : Go p e below s kc ks Q (T.setTop g) := by
  obtain ⟨fs, hr, hrun, hended, hW, hsame⟩ := X.leave hv hlk
  exact ⟨_, _, st fs hr, hrun, hended, v, locs, rfl, q, ⟨_, rfl⟩, hW, hsame.mono hc hs⟩
theorem Go.retI (X : Stand p l e R s m args below meth c T locs cells slots) (hx : p.tables.exec = Jvm.exec) (hlk : meth.locks = false) (hret : meth.sig.returnType = some .int) {pc : Nat} {Ls : Array Slot} {z : Int32} {rest : List Value}
    (hd : decode c.code pc = .ok (.ireturn, 1)) (hc : cells ≤ kc) (hs : slots ≤ ks) (q : Q (some (.int z)) T.heap locs) : Go p e below s kc ks Q (T.setTop (mkF m pc Ls (.int z :: rest))) :=
  Go.leave X hlk (fun h => by rw [hret] at h; cases h) (fun fs hr => retOut X hx hret rfl (Or.inl ⟨rfl, Or.inl rfl, z, rfl⟩) hd hr) hc hs q
theorem Go.retN (X : Stand p l e R s m args below meth c T locs cells slots) (hx : p.tables.exec = Jvm.exec) (hlk : meth.locks = false) {t : FieldType} (hret : meth.sig.returnType = some t) (ht : t = .boolean ∨ t = .byte ∨ t = .char ∨ t = .short) {pc : Nat} {Ls : Array Slot} {z : Int32} {rest : List Value}
    (hd : decode c.code pc = .ok (.ireturn, 1)) (hz : nar t z = z) (hc : cells ≤ kc) (hs : slots ≤ ks) (q : Q (some (.int z)) T.heap locs) : Go p e below s kc ks Q (T.setTop (mkF m pc Ls (.int z :: rest))) :=
  Go.leave X hlk (fun h => by rw [hret] at h; cases h) (fun fs hr => RoadKit.retN X hx hret ht hd (by rw [hz]; exact hr)) hc hs q
theorem Go.retJ (X : Stand p l e R s m args below meth c T locs cells slots) (hx : p.tables.exec = Jvm.exec) (hlk : meth.locks = false) (hret : meth.sig.returnType = some .long) {pc : Nat} {Ls : Array Slot} {z : Int64} {rest : List Value}
    (hd : decode c.code pc = .ok (.lreturn, 1)) (hc : cells ≤ kc) (hs : slots ≤ ks) (q : Q (some (.long z)) T.heap locs) : Go p e below s kc ks Q (T.setTop (mkF m pc Ls (.long z :: rest))) :=
  Go.leave X hlk (fun h => by rw [hret] at h; cases h) (fun fs hr => retOut X hx hret rfl (Or.inr (Or.inl ⟨rfl, rfl, z, rfl⟩)) hd hr) hc hs q
theorem Go.retA (X : Stand p l e R s m args below meth c T locs cells slots) (hx : p.tables.exec = Jvm.exec) (hlk : meth.locks = false) {t : FieldType} (hret : meth.sig.returnType = some t) (ht : t.isReference = true) {pc : Nat} {Ls : Array Slot} {z : Value} {rest : List Value} (hz : z.isRef = true)
    (hd : decode c.code pc = .ok (.areturn, 1)) (hc : cells ≤ kc) (hs : slots ≤ ks) (q : Q (some z) T.heap locs) : Go p e below s kc ks Q (T.setTop (mkF m pc Ls (z :: rest))) :=
  Go.leave X hlk (fun h => by rw [hret] at h; cases h) (fun fs hr => retOut X hx hret (by cases t <;> first | rfl | (simp [FieldType.isReference] at ht; done)) (Or.inr (Or.inr (Or.inr (Or.inr ⟨rfl, ht, hz⟩)))) hd hr) hc hs q
theorem Go.retV (X : Stand p l e R s m args below meth c T locs cells slots) (hx : p.tables.exec = Jvm.exec) (hlk : meth.locks = false) (hret : meth.sig.returnType = none) {pc : Nat} {Ls : Array Slot}
    (hd : decode c.code pc = .ok (.return_, 1)) (hc : cells ≤ kc) (hs : slots ≤ ks) (q : Q none T.heap locs) : Go p e below s kc ks Q (T.setTop (mkF m pc Ls [])) :=
  Go.leave X hlk (fun _ => rfl) (fun fs hr => X.returnOut hx hret hd hr) hc hs q
/-- a body's contract: called with these arguments over this heap it returns, and Q holds -/
def Con (l : Launch) (Z : State) (y : MethodName) (bytes : ByteArray) (maxL : Nat) (ret : Option FieldType) (rm : Room) (as' : Array Value) (h0 : Heap) (Q : Option Value → Heap → List Loc → Prop) : Prop :=
  ∀ ws : List Cond, MetFree l y (head1 (Cond.code y bytes maxL ret :: ws) rm) (fun a U => a = as' ∧ Z.Warmed39 U.vm ∧ U.heap = h0) (fun _ _ _ _ _ => True) (fun _ U o U' => ∃ v L, o = .returned v ∧ Q v U'.heap L ∧ FrameEnd U o U' L rm.cells rm.slots)
theorem Con.intro {y : MethodName} {bytes : ByteArray} {maxL : Nat} {ret : Option FieldType} {rm : Room} {as' : Array Value} {gf : MethodId → JFrame} (hpl : plainFor y = true) (hef : ∀ m, entryFrame m as' maxL = gf m)
    (body : ∀ (p : Program) (e : Env) (s : State) (m : MethodId) (below : List Frame) (meth : Method) (c : Code) (s₁ : State), p.tables.exec = Jvm.exec → c.code = bytes → c.maxLocals = maxL → Z.Warmed39 s.vm → s.vm.findClass y.cls = some m.cls → meth.name = y.name → meth.sig.returnType = ret → meth.locks = false →
      Stand p l e rm s m as' below meth c s₁ [] 0 0 → s₁.heap = h0 → Go p e below s rm.cells rm.slots Q (s₁.setTop (gf m))) : Con l Z y bytes maxL ret rm as' h0 Q := by
  intro ws
  refine MetFree.of_bodySF hpl hisR ?_
  intro p e s m args below meth c s₁ Bd hml hP hK
  obtain ⟨rfl, hZ, hh⟩ := hP
  have k := body p e s m below meth c s₁ Bd.exec Bd.bytes hml hZ (findClass_of_methodNamed Bd.named) (name_of_methodNamed Bd.named Bd.method).1 Bd.returns Bd.notSynchronized (Stand.of_body Bd) (by rw [← hh, Bd.state]; rfl)
  rw [← hef m] at k
  exact k
theorem Go.static (X : Stand p l e R s m args below meth c T locs cells slots) (hx : p.tables.exec = Jvm.exec) (hZ : Z.Warmed39 s.vm) {own : String} {index : Nat} {y : MethodName} {bytes : ByteArray} {maxL : Nat} {ret : Option FieldType} {rm : Room} {Q' : Option Value → Heap → List Loc → Prop} {argsL : List Value}
    (hown : s.vm.findClass own = some m.cls) (w1 : (Cond.methodLink own index y).before a0 Z = true) (w2 : (Cond.static y).before a0 Z = true) (w3 : (Cond.initialized y.cls).before a0 Z = true) (w4 : (Cond.code y bytes maxL ret).before a0 Z = true)
    (hy : y.cls ≠ "java/lang/invoke/MethodHandle" ∧ y.cls ≠ "java/lang/invoke/VarHandle") (W : Nat) (eT : T.heap = h) (K : Con l Z y bytes maxL ret rm argsL.toArray h Q') (hf : rm.frames + 1 ≤ R.frames) (hlo : W + (maxL + 11) + rm.locals ≤ R.locals) (hc : cells + rm.cells ≤ R.cells) (hs : slots + rm.slots ≤ R.slots)
    {g : JFrame} (hg : g.method = m) (hsize : g.locals.size = c.maxLocals) {rest : List Value} (hlen : ∀ sig, parseMethodDescriptor y.desc = some sig → argsL.length = sig.parameters.length) (hstack : g.stack = argsL.reverse ++ rest) (hW : 2 * g.monitorRoom + (rest.map fun v => v.category).sum ≤ W)
    (hd : decode c.code g.pc = .ok (.invokestatic index, 3))
    (k : ∀ (T' : State) (v : Option Value) (L : List Loc), Stand p l e R s m args below meth c T' (locs ++ L) (cells + rm.cells) (slots + rm.slots) → Q' v T'.heap L → Go p e below s kc ks Q (T'.setTop { g with pc := g.pc + 3, stack := v.toList ++ rest })) : Go p e below s kc ks Q (T.setTop g) := by
  obtain ⟨v, _, ⟨T', L', k', n'⟩, -, X', ⟨Lc, hQ, l1, l2, l3⟩, st⟩ := Jvm.LawKit.callS X hx hown (mvT hZ w1) (mvT hZ w2) (mvT hZ w3) (mvT hZ w4) hy (backOf (W := W) (K []) hZ w4 w3 hf hlo) hg hsize hlen hstack hW hd (fun _ _ => ⟨rfl, eT, hc, hs⟩)
  dsimp only [Pt.U, Pt.locs, Pt.cells, Pt.slots] at X' l1 l2 l3 st hQ
  subst l1 l2 l3
  exact Go.of st (k T' v Lc X' hQ)
theorem Go.special (X : Stand p l e R s m args below meth c T locs cells slots) (hx : p.tables.exec = Jvm.exec) (hZ : Z.Warmed39 s.vm) {own : String} {index : Nat} {y : MethodName} {bytes : ByteArray} {maxL : Nat} {rm : Room} {Q' : Option Value → Heap → List Loc → Prop} {a : Addr} {argsL : List Value} (hy1 : y.name = "<init>")
    (hown : s.vm.findClass own = some m.cls) (w1 : (Cond.methodLink own index y).before a0 Z = true) (w2 : (Cond.instanceMethod y).before a0 Z = true) (w3 : (Cond.initialized y.cls).before a0 Z = true) (w4 : (Cond.code y bytes maxL none).before a0 Z = true)
    (hy : y.cls ≠ "java/lang/invoke/MethodHandle" ∧ y.cls ≠ "java/lang/invoke/VarHandle") (W : Nat) (eT : T.heap = h) (K : Con l Z y bytes maxL none rm (Value.ref a :: argsL).toArray h Q') (hf : rm.frames + 1 ≤ R.frames) (hlo : W + (maxL + 11) + rm.locals ≤ R.locals) (hc : cells + rm.cells ≤ R.cells) (hs : slots + rm.slots ≤ R.slots)
    {g : JFrame} (hg : g.method = m) (hsize : g.locals.size = c.maxLocals) {rest : List Value} (hlen : ∀ sig, parseMethodDescriptor y.desc = some sig → argsL.length = sig.parameters.length) (hstack : g.stack = argsL.reverse ++ .ref a :: rest) (hW : 2 * g.monitorRoom + (rest.map fun v => v.category).sum ≤ W)
    (hd : decode c.code g.pc = .ok (.invokespecial index, 3))
    (k : ∀ (T' : State) (v : Option Value) (L : List Loc), Stand p l e R s m args below meth c T' (locs ++ L) (cells + rm.cells) (slots + rm.slots) → Q' v T'.heap L → Go p e below s kc ks Q (T'.setTop { g with pc := g.pc + 3, stack := v.toList ++ rest })) : Go p e below s kc ks Q (T.setTop g) := by
  obtain ⟨v, _, ⟨T', L', k', n'⟩, -, X', ⟨Lc, hQ, l1, l2, l3⟩, st⟩ := X.specialBack hx hy1 hown (mvT hZ w1) (mvT hZ w2) (mvT hZ w4) hy (backOf (W := W) (K []) hZ w4 w3 hf hlo) hg hsize (Steps.refl _) hlen hstack hW hd (fun _ _ => ⟨rfl, eT, hc, hs⟩)
  dsimp only [Pt.U, Pt.locs, Pt.cells, Pt.slots] at X' l1 l2 l3 st hQ
  subst l1 l2 l3
  exact Go.of (fun _ q => st.trans q) (k T' v Lc X' hQ)
theorem Go.virtual (X : Stand p l e R s m args below meth c T locs cells slots) (hx : p.tables.exec = Jvm.exec) (hZ : Z.Warmed39 s.vm) {own C : String} {index : Nat} {y z : MethodName} {bytes : ByteArray} {maxL : Nat} {ret : Option FieldType} {rm : Room} {Q' : Option Value → Heap → List Loc → Prop} {a : Addr} {argsL : List Value}
    (hown : s.vm.findClass own = some m.cls) (w1 : (Cond.methodLink own index y).before a0 Z = true) (w2 : (Cond.declares y).before a0 Z = true) (hnf : NotFace s y) (w5 : (Cond.selects C y z).before a0 Z = true) (w6 : (Cond.instanceMethod z).before a0 Z = true) (w3 : (Cond.initialized z.cls).before a0 Z = true) (w4 : (Cond.code z bytes maxL ret).before a0 Z = true)
    (hy : y.cls ≠ "java/lang/invoke/MethodHandle" ∧ y.cls ≠ "java/lang/invoke/VarHandle") (W : Nat) (eT : T.heap = h) (E : Exa Z h a C) (K : Con l Z z bytes maxL ret rm (Value.ref a :: argsL).toArray h Q') (hf : rm.frames + 1 ≤ R.frames) (hlo : W + (maxL + 11) + rm.locals ≤ R.locals) (hc : cells + rm.cells ≤ R.cells) (hs : slots + rm.slots ≤ R.slots)
    {g : JFrame} (hg : g.method = m) (hsize : g.locals.size = c.maxLocals) {rest : List Value} (hlen : ∀ sig, parseMethodDescriptor y.desc = some sig → argsL.length = sig.parameters.length) (hstack : g.stack = argsL.reverse ++ .ref a :: rest) (hW : 2 * g.monitorRoom + (rest.map fun v => v.category).sum ≤ W)
    (hd : decode c.code g.pc = .ok (.invokevirtual index, 3))
    (k : ∀ (T' : State) (v : Option Value) (L : List Loc), Stand p l e R s m args below meth c T' (locs ++ L) (cells + rm.cells) (slots + rm.slots) → Q' v T'.heap L → Go p e below s kc ks Q (T'.setTop { g with pc := g.pc + 3, stack := v.toList ++ rest })) : Go p e below s kc ks Q (T.setTop g) := by
  obtain ⟨cq, kq, qa, -, qc⟩ := isOf hZ eT E
  obtain ⟨v, _, ⟨T', L', k', n'⟩, -, X', ⟨Lc, hQ, l1, l2, l3⟩, st⟩ := X.virtualBack hx hown (mvT hZ w1) (mvT hZ w2) hnf (mvT hZ w5) (mvT hZ w6) hy (backOf (W := W) (K []) hZ w4 w3 hf hlo) qa qc hg hsize (Steps.refl _) hlen hstack hW hd (fun _ _ => ⟨rfl, eT, hc, hs⟩)
  dsimp only [Pt.U, Pt.locs, Pt.cells, Pt.slots] at X' l1 l2 l3 st hQ
  subst l1 l2 l3
  exact Go.of (fun _ q => st.trans q) (k T' v Lc X' hQ)
theorem Go.virtualUp (X : Stand p l e R s m args below meth c T locs cells slots) (hx : p.tables.exec = Jvm.exec) (hZ : Z.Warmed39 s.vm) {own C owner : String} {index : Nat} {y z : MethodName} {bytes : ByteArray} {maxL : Nat} {ret : Option FieldType} {rm : Room} {Q' : Option Value → Heap → List Loc → Prop} {a : Addr} {argsL : List Value}
    (hown : s.vm.findClass own = some m.cls) (w1 : (Cond.methodLink own index y).before a0 Z = true) (w2 : (Cond.sameMethod y.cls owner y.name y.desc).before a0 Z = true) (w7 : (Cond.declares ⟨owner, y.name, y.desc⟩).before a0 Z = true) (w5 : (Cond.selects C y z).before a0 Z = true) (w6 : (Cond.instanceMethod z).before a0 Z = true) (w3 : (Cond.initialized z.cls).before a0 Z = true) (w4 : (Cond.code z bytes maxL ret).before a0 Z = true)
    (hy : owner ≠ "java/lang/invoke/MethodHandle" ∧ owner ≠ "java/lang/invoke/VarHandle") (W : Nat) (eT : T.heap = h) (E : Exa Z h a C) (K : Con l Z z bytes maxL ret rm (Value.ref a :: argsL).toArray h Q') (hf : rm.frames + 1 ≤ R.frames) (hlo : W + (maxL + 11) + rm.locals ≤ R.locals) (hc : cells + rm.cells ≤ R.cells) (hs : slots + rm.slots ≤ R.slots)
    {g : JFrame} (hg : g.method = m) (hsize : g.locals.size = c.maxLocals) {rest : List Value} (hlen : ∀ sig, parseMethodDescriptor y.desc = some sig → argsL.length = sig.parameters.length) (hstack : g.stack = argsL.reverse ++ .ref a :: rest) (hW : 2 * g.monitorRoom + (rest.map fun v => v.category).sum ≤ W)
    (hd : decode c.code g.pc = .ok (.invokevirtual index, 3))
    (k : ∀ (T' : State) (v : Option Value) (L : List Loc), Stand p l e R s m args below meth c T' (locs ++ L) (cells + rm.cells) (slots + rm.slots) → Q' v T'.heap L → Go p e below s kc ks Q (T'.setTop { g with pc := g.pc + 3, stack := v.toList ++ rest })) : Go p e below s kc ks Q (T.setTop g) := by
  obtain ⟨cq, kq, qa, -, qc⟩ := isOf hZ eT E
  obtain ⟨v, _, ⟨T', L', k', n'⟩, -, X', ⟨Lc, hQ, l1, l2, l3⟩, st⟩ := X.virtualBackUp hx hown (mvT hZ w1) (mvT hZ w2) (mvT hZ w7) hy (mvT hZ w5) (mvT hZ w6) (backOf (W := W) (K []) hZ w4 w3 hf hlo) qa qc hg hsize (Steps.refl _) hlen hstack hW hd (fun _ _ => ⟨rfl, eT, hc, hs⟩)
  dsimp only [Pt.U, Pt.locs, Pt.cells, Pt.slots] at X' l1 l2 l3 st hQ
  subst l1 l2 l3
  exact Go.of (fun _ q => st.trans q) (k T' v Lc X' hQ)
theorem refCat {v : Value} (h : v.isRef = true) : v.category = 1 := by rcases ref_cases h with rfl | ⟨_, rfl⟩ <;> rfl
theorem storeOne {ls l' : Array Slot} {i : Nat} {v : Value} {o : Slot} (hold : ls[i]? = some o) (ho : One o) (hv : v.category = 1) (e : ls.setIfInBounds i (.val v) = l') : storeLocals ls i v = some l' := by rw [← e]; exact XS.store1 hold ho hv
/-- a cast of what may be null -/
theorem castV (X : Stand p l e R s m args below meth c T locs cells slots) (hx : p.tables.exec = Jvm.exec) (hZ : Z.Warmed39 s.vm) {own K : String} {index : Nat} (hown : s.vm.findClass own = some m.cls) (w : (Cond.classLink own index K).before a0 Z = true) (eT : T.heap = h) {v : Value} (F : v = .null ∨ ∃ a, v = .ref a ∧ Ins Z h a K true)
    {g : JFrame} (hg : g.method = m) {rest : List Value} (hs : g.stack = v :: rest) (hd : decode c.code g.pc = .ok (.checkcast index, 3)) : ∃ T', Stand p l e R s m args below meth c T' locs cells slots ∧ T'.heap = h ∧ ∀ target, Steps p.tables e below (T'.setTop { g with pc := g.pc + 3 }) target → Steps p.tables e below (T.setTop g) target := by
  rcases F with rfl | ⟨a, rfl, I⟩
  · exact ⟨T, X, eT, fun target q => X.checkcastNull hx hg hs hd target q⟩
  · exact castY X hx hZ hown w eT I hg hs hd
end Kit
end Jvm.OwnKit
namespace Jvm.OwnKit
open Sem ClassFile Op Lib Jvm.Stand Jvm.Free Jvm.LawKit Jvm.RoadKit
section Wide
variable {p : Program} {l : Launch} {e : Env} {R : Room} {s s1 : State} {m : MethodId} {args : Array Value} {below : List Frame} {meth : Method} {c : Code} {T : State} {locs : List Loc} {cells slots : Nat} {Z : State} {a0 : Array Value} {h h0 : Heap} {kc ks : Nat} {vm0 : Vm} {k0 : Nat} {Q : Option Value → Heap → Vm → List Loc → Prop} {G : State → Prop}
/-- as Go, where a String constant may come to be interned on the way -/
def GoW (p : Program) (e : Env) (below : List Frame) (s : State) (kc ks : Nat) (Q : Option Value → Heap → Vm → List Loc → Prop) (a : State) : Prop :=
  ∃ (t : State) (o : Outcome), Steps p.tables e below a t ∧ t.status = .running ∧ Ended t below o ∧ ∃ v L, o = .returned v ∧ Q v t.heap t.vm L ∧ ReturnedEndW s o t L kc ks
theorem GoW.of {a b : State} (st : ∀ t, Steps p.tables e below b t → Steps p.tables e below a t) (k : GoW p e below s kc ks Q b) : GoW p e below s kc ks Q a := by
  obtain ⟨t, o, h, r⟩ := k
  exact ⟨t, o, st t h, r⟩
theorem GoW.leave (X : Stand p l e R (s.setVm vm0) m args below meth c T locs cells slots) (hS : s.Since vm0 k0) (hn : k0 ≤ T.heap.size) (hlk : meth.locks = false) {v : Option Value} (hv : meth.sig.returnType = none → v = none) {g : JFrame}
    (st : ∀ fs, (∀ (f : JFrame) (acts : List Action), f.method = m → f.locked = none → f.entered = [] → (doReturn e (T.setTop f) acts v).1 = T.setFrames fs) → Steps p.tables e below (T.setTop g) (T.setFrames fs))
    (hc : cells ≤ kc) (hs : slots ≤ ks) (q : Q v T.heap T.vm locs) : GoW p e below s kc ks Q (T.setTop g) := by
  obtain ⟨fs, hr, hrun, hended, hE⟩ := X.leaveW hS hn hv hlk
  exact ⟨_, _, st fs hr, hrun, hended, v, locs, rfl, q, hE.1, hE.2.1, hE.2.2.1, hE.2.2.2.mono hc hs⟩
theorem GoW.retI (X : Stand p l e R (s.setVm vm0) m args below meth c T locs cells slots) (hS : s.Since vm0 k0) (hn : k0 ≤ T.heap.size) (hx : p.tables.exec = Jvm.exec) (hlk : meth.locks = false) (hret : meth.sig.returnType = some .int) {pc : Nat} {Ls : Array Slot} {z : Int32} {rest : List Value}
    (hd : decode c.code pc = .ok (.ireturn, 1)) (hc : cells ≤ kc) (hs : slots ≤ ks) (q : Q (some (.int z)) T.heap T.vm locs) : GoW p e below s kc ks Q (T.setTop (mkF m pc Ls (.int z :: rest))) :=
  GoW.leave X hS hn hlk (fun h => by rw [hret] at h; cases h) (fun fs hr => retOut X hx hret rfl (Or.inl ⟨rfl, Or.inl rfl, z, rfl⟩) hd hr) hc hs q
theorem GoW.retN (X : Stand p l e R (s.setVm vm0) m args below meth c T locs cells slots) (hS : s.Since vm0 k0) (hn : k0 ≤ T.heap.size) (hx : p.tables.exec = Jvm.exec) (hlk : meth.locks = false) {t : FieldType} (hret : meth.sig.returnType = some t) (ht : t = .boolean ∨ t = .byte ∨ t = .char ∨ t = .short) {pc : Nat} {Ls : Array Slot} {z : Int32} {rest : List Value}
    (hd : decode c.code pc = .ok (.ireturn, 1)) (hz : nar t z = z) (hc : cells ≤ kc) (hs : slots ≤ ks) (q : Q (some (.int z)) T.heap T.vm locs) : GoW p e below s kc ks Q (T.setTop (mkF m pc Ls (.int z :: rest))) :=
  GoW.leave X hS hn hlk (fun h => by rw [hret] at h; cases h) (fun fs hr => RoadKit.retN X hx hret ht hd (by rw [hz]; exact hr)) hc hs q
theorem GoW.retA (X : Stand p l e R (s.setVm vm0) m args below meth c T locs cells slots) (hS : s.Since vm0 k0) (hn : k0 ≤ T.heap.size) (hx : p.tables.exec = Jvm.exec) (hlk : meth.locks = false) {t : FieldType} (hret : meth.sig.returnType = some t) (ht : t.isReference = true) {pc : Nat} {Ls : Array Slot} {z : Value} {rest : List Value} (hz : z.isRef = true)
    (hd : decode c.code pc = .ok (.areturn, 1)) (hc : cells ≤ kc) (hs : slots ≤ ks) (q : Q (some z) T.heap T.vm locs) : GoW p e below s kc ks Q (T.setTop (mkF m pc Ls (z :: rest))) :=
  GoW.leave X hS hn hlk (fun h => by rw [hret] at h; cases h) (fun fs hr => retOut X hx hret (by cases t <;> first | rfl | (simp [FieldType.isReference] at ht; done)) (Or.inr (Or.inr (Or.inr (Or.inr ⟨rfl, ht, hz⟩)))) hd hr) hc hs q
theorem GoW.retV (X : Stand p l e R (s.setVm vm0) m args below meth c T locs cells slots) (hS : s.Since vm0 k0) (hn : k0 ≤ T.heap.size) (hx : p.tables.exec = Jvm.exec) (hlk : meth.locks = false) (hret : meth.sig.returnType = none) {pc : Nat} {Ls : Array Slot}
    (hd : decode c.code pc = .ok (.return_, 1)) (hc : cells ≤ kc) (hs : slots ≤ ks) (q : Q none T.heap T.vm locs) : GoW p e below s kc ks Q (T.setTop (mkF m pc Ls [])) :=
  GoW.leave X hS hn hlk (fun _ => rfl) (fun fs hr => X.returnOut hx hret hd hr) hc hs q
/-- a contract of a body that may intern; V: what the tables say where it is called -/
def ConW (l : Launch) (Z : State) (y : MethodName) (bytes : ByteArray) (maxL : Nat) (ret : Option FieldType) (rm : Room) (as' : Array Value) (h0 : Heap) (V : Vm → Prop) (Q : Option Value → Heap → Vm → List Loc → Prop) : Prop :=
  ∀ ws : List Cond, MetFree l y (head1 (Cond.code y bytes maxL ret :: ws) rm) (fun a U => a = as' ∧ Z.Warmed39 U.vm ∧ U.heap = h0 ∧ V U.vm) (fun _ _ _ _ _ => True) (fun _ U o U' => ∃ v L, o = .returned v ∧ Q v U'.heap U'.vm L ∧ ReturnedEndW U o U' L rm.cells rm.slots)
theorem ConW.intro {y : MethodName} {bytes : ByteArray} {maxL : Nat} {ret : Option FieldType} {rm : Room} {as' : Array Value} {V : Vm → Prop} {gf : MethodId → JFrame} (hpl : plainFor y = true) (hef : ∀ m, entryFrame m as' maxL = gf m)
    (body : ∀ (p : Program) (e : Env) (s : State) (m : MethodId) (below : List Frame) (meth : Method) (c : Code) (s₁ : State), p.tables.exec = Jvm.exec → c.code = bytes → c.maxLocals = maxL → Z.Warmed39 (s.setVm s.vm).vm → (s.setVm s.vm).vm.findClass y.cls = some m.cls → meth.name = y.name → meth.sig.returnType = ret → meth.locks = false →
      Stand p l e rm (s.setVm s.vm) m as' below meth c s₁ [] 0 0 → s₁.heap = h0 → s.heap = h0 → V s.vm → s.Since s.vm 0 → GoW p e below s rm.cells rm.slots Q (s₁.setTop (gf m))) : ConW l Z y bytes maxL ret rm as' h0 V Q := by
  intro ws
  refine MetFree.of_bodySF hpl hisR ?_
  intro p e s m args below meth c s₁ Bd hml hP hK
  obtain ⟨rfl, hZ, hh, hV⟩ := hP
  have k := body p e s m below meth c s₁ Bd.exec Bd.bytes hml hZ (findClass_of_methodNamed Bd.named) (name_of_methodNamed Bd.named Bd.method).1 Bd.returns Bd.notSynchronized (Stand.of_body Bd) (by rw [← hh, Bd.state]; rfl) hh hV ((State.WarmedH.refl s).since 0)
  rw [← hef m] at k
  exact k
theorem backOfW {y : MethodName} {bytes : ByteArray} {maxL : Nat} {ret : Option FieldType} {rm : Room} {len W : Nat} {as' : Array Value} {V : Vm → Prop}
    (hM : ConW l Z y bytes maxL ret rm as' h V Q) (hZ : Z.Warmed39 s1.vm) (wc : (Cond.code y bytes maxL ret).before a0 Z = true) (wz : (Cond.initialized y.cls).before a0 Z = true) (hf : rm.frames + 1 ≤ R.frames) (hl : W + (maxL + 11) + rm.locals ≤ R.locals) :
    BackS l R p e below s1 args y len W (fun A a => a = as' ∧ A.U.heap = h ∧ V A.U.vm ∧ A.cells + rm.cells ≤ R.cells ∧ A.slots + rm.slots ≤ R.slots)
      (fun A _ v B => ∃ L, Q v B.U.heap B.U.vm L ∧ B.locs = A.locs ++ L ∧ B.cells = A.cells + rm.cells ∧ B.slots = A.slots + rm.slots) :=
  BackS.of_freeW (bytes := bytes) (maxL := maxL) (ret := ret) (E := fun _ _ o t L k n => k = rm.cells ∧ n = rm.slots ∧ ∃ v, o = .returned v ∧ Q v t.heap t.vm L) (hM []) hf hl
    (fun m meth c A a Y hp => have hU : Z.Warmed39 A.U.vm := wtrans hZ Y.warmed
      ⟨by show (Cond.and _ .tt).before a A.U = true; rw [Cond.before_and, mv hU wc]; rfl, mv hU wc, mv hU wz, hp.2.2.2.1, hp.2.2.2.2⟩)
    (fun m meth c A a g mk Y hp => ⟨hp.1, wtrans hZ Y.warmed, hp.2.1, hp.2.2.1⟩) (fun _ _ _ _ _ _ _ _ _ => trivial)
    (fun _ _ _ _ ⟨v, L, h1, h2, h3⟩ => ⟨L, _, _, h3, rfl, rfl, v, h1, h2⟩)
    (fun m meth c A a g mk v t L k n Y hp _ _ ⟨e1, e2, v', e3, e4⟩ => by cases e3; subst e1 e2; exact ⟨L, e4, rfl, rfl, rfl⟩)
/-- a static call of a body that may intern -/
theorem GoW.staticW (X : Stand p l e R (s.setVm vm0) m args below meth c T locs cells slots) (hS : s.Since vm0 k0) (hk : k0 ≤ h.size) (hx : p.tables.exec = Jvm.exec) (hZ : Z.Warmed39 (s.setVm vm0).vm) {own : String} {index : Nat} {y : MethodName} {bytes : ByteArray} {maxL : Nat} {ret : Option FieldType} {rm : Room} {V : Vm → Prop} {Q' : Option Value → Heap → Vm → List Loc → Prop} {argsL : List Value}
    (hown : (s.setVm vm0).vm.findClass own = some m.cls) (w1 : (Cond.methodLink own index y).before a0 Z = true) (w2 : (Cond.static y).before a0 Z = true) (w3 : (Cond.initialized y.cls).before a0 Z = true) (w4 : (Cond.code y bytes maxL ret).before a0 Z = true)
    (hy : y.cls ≠ "java/lang/invoke/MethodHandle" ∧ y.cls ≠ "java/lang/invoke/VarHandle") (W : Nat) (eT : T.heap = h) (hV : ∀ vm₁, (s.setVm vm0).WarmedH vm₁ → V vm₁) (K : ConW l Z y bytes maxL ret rm argsL.toArray h V Q') (hf : rm.frames + 1 ≤ R.frames) (hlo : W + (maxL + 11) + rm.locals ≤ R.locals) (hc : cells + rm.cells ≤ R.cells) (hs : slots + rm.slots ≤ R.slots)
    {g : JFrame} (hg : g.method = m) (hsize : g.locals.size = c.maxLocals) {rest : List Value} (hlen : ∀ sig, parseMethodDescriptor y.desc = some sig → argsL.length = sig.parameters.length) (hstack : g.stack = argsL.reverse ++ rest) (hW : 2 * g.monitorRoom + (rest.map fun v => v.category).sum ≤ W)
    (hd : decode c.code g.pc = .ok (.invokestatic index, 3))
    (k : ∀ (T' : State) (v : Option Value) (L : List Loc), Stand p l e R (s.setVm T'.vm) m args below meth c T' (locs ++ L) (cells + rm.cells) (slots + rm.slots) → s.Since T'.vm T'.heap.size → Z.Warmed39 (s.setVm T'.vm).vm → (s.setVm T'.vm).vm.findClass own = some m.cls → Q' v T'.heap T'.vm L → GoW p e below s kc ks Q (T'.setTop { g with pc := g.pc + 3, stack := v.toList ++ rest })) : GoW p e below s kc ks Q (T.setTop g) := by
  obtain ⟨v, _, ⟨T', L', k', n'⟩, -, X', hS', gr, ⟨Lc, hQ, l1, l2, l3⟩, st⟩ := callSS X hx hown (mvT hZ w1) (mvT hZ w2) (mvT hZ w3) (mvT hZ w4) hy (backOfW (W := W) K hZ w4 w3 hf hlo) hg hsize hlen hstack hW hd (fun vm₁ hW₁ => ⟨rfl, eT, hV vm₁ hW₁, hc, hs⟩)
  dsimp only [Pt.U, Pt.locs, Pt.cells, Pt.slots] at X' l1 l2 l3 st hQ hS' gr
  subst l1 l2 l3
  obtain ⟨Y, hS2, hZ2, hown2⟩ := rebS (Z := Z) (own := own) hS hk X' hS' (by rw [← eT]; exact gr) hZ hown
  exact GoW.of (fun _ q => st.trans q) (k T' v Lc Y hS2 hZ2 hown2 hQ)
/-- a constructor that may intern -/
theorem GoW.specialW (X : Stand p l e R (s.setVm vm0) m args below meth c T locs cells slots) (hS : s.Since vm0 k0) (hk : k0 ≤ h.size) (hx : p.tables.exec = Jvm.exec) (hZ : Z.Warmed39 (s.setVm vm0).vm) {own : String} {index : Nat} {y : MethodName} {bytes : ByteArray} {maxL : Nat} {rm : Room} {V : Vm → Prop} {Q' : Option Value → Heap → Vm → List Loc → Prop} {a : Addr} {argsL : List Value} (hy1 : y.name = "<init>")
    (hown : (s.setVm vm0).vm.findClass own = some m.cls) (w1 : (Cond.methodLink own index y).before a0 Z = true) (w2 : (Cond.instanceMethod y).before a0 Z = true) (w3 : (Cond.initialized y.cls).before a0 Z = true) (w4 : (Cond.code y bytes maxL none).before a0 Z = true)
    (hy : y.cls ≠ "java/lang/invoke/MethodHandle" ∧ y.cls ≠ "java/lang/invoke/VarHandle") (W : Nat) (eT : T.heap = h) (hV : ∀ vm₁, (s.setVm vm0).WarmedH vm₁ → V vm₁) (K : ConW l Z y bytes maxL none rm (Value.ref a :: argsL).toArray h V Q') (hf : rm.frames + 1 ≤ R.frames) (hlo : W + (maxL + 11) + rm.locals ≤ R.locals) (hc : cells + rm.cells ≤ R.cells) (hs : slots + rm.slots ≤ R.slots)
    {g : JFrame} (hg : g.method = m) (hsize : g.locals.size = c.maxLocals) {rest : List Value} (hlen : ∀ sig, parseMethodDescriptor y.desc = some sig → argsL.length = sig.parameters.length) (hstack : g.stack = argsL.reverse ++ .ref a :: rest) (hW : 2 * g.monitorRoom + (rest.map fun v => v.category).sum ≤ W)
    (hd : decode c.code g.pc = .ok (.invokespecial index, 3))
    (k : ∀ (T' : State) (v : Option Value) (L : List Loc), Stand p l e R (s.setVm T'.vm) m args below meth c T' (locs ++ L) (cells + rm.cells) (slots + rm.slots) → s.Since T'.vm T'.heap.size → Z.Warmed39 (s.setVm T'.vm).vm → (s.setVm T'.vm).vm.findClass own = some m.cls → Q' v T'.heap T'.vm L → GoW p e below s kc ks Q (T'.setTop { g with pc := g.pc + 3, stack := v.toList ++ rest })) : GoW p e below s kc ks Q (T.setTop g) := by
  obtain ⟨v, _, ⟨T', L', k', n'⟩, -, X', hS', gr, ⟨Lc, hQ, l1, l2, l3⟩, st⟩ := X.specialBackS hx hy1 hown (mvT hZ w1) (mvT hZ w2) (mvT hZ w4) hy (backOfW (W := W) K hZ w4 w3 hf hlo) hg hsize (Steps.refl _) hlen hstack hW hd (fun vm₁ hW₁ => ⟨rfl, eT, hV vm₁ hW₁, hc, hs⟩)
  dsimp only [Pt.U, Pt.locs, Pt.cells, Pt.slots] at X' l1 l2 l3 st hQ hS' gr
  subst l1 l2 l3
  obtain ⟨Y, hS2, hZ2, hown2⟩ := rebS (Z := Z) (own := own) hS hk X' hS' (by rw [← eT]; exact gr) hZ hown
  exact GoW.of (fun _ q => st.trans q) (k T' v Lc Y hS2 hZ2 hown2 hQ)
/-- calls of bodies that don't intern, towards any goal that steps carry -/
theorem callStatic (hG : ∀ {a b : State}, (∀ t, Steps p.tables e below b t → Steps p.tables e below a t) → G b → G a) (X : Stand p l e R s m args below meth c T locs cells slots) (hx : p.tables.exec = Jvm.exec) (hZ : Z.Warmed39 s.vm) {own : String} {index : Nat} {y : MethodName} {bytes : ByteArray} {maxL : Nat} {ret : Option FieldType} {rm : Room} {Q' : Option Value → Heap → List Loc → Prop} {argsL : List Value}
    (hown : s.vm.findClass own = some m.cls) (w1 : (Cond.methodLink own index y).before a0 Z = true) (w2 : (Cond.static y).before a0 Z = true) (w3 : (Cond.initialized y.cls).before a0 Z = true) (w4 : (Cond.code y bytes maxL ret).before a0 Z = true)
    (hy : y.cls ≠ "java/lang/invoke/MethodHandle" ∧ y.cls ≠ "java/lang/invoke/VarHandle") (W : Nat) (eT : T.heap = h) (K : Con l Z y bytes maxL ret rm argsL.toArray h Q') (hf : rm.frames + 1 ≤ R.frames) (hlo : W + (maxL + 11) + rm.locals ≤ R.locals) (hc : cells + rm.cells ≤ R.cells) (hs : slots + rm.slots ≤ R.slots)
    {g : JFrame} (hg : g.method = m) (hsize : g.locals.size = c.maxLocals) {rest : List Value} (hlen : ∀ sig, parseMethodDescriptor y.desc = some sig → argsL.length = sig.parameters.length) (hstack : g.stack = argsL.reverse ++ rest) (hW : 2 * g.monitorRoom + (rest.map fun v => v.category).sum ≤ W)
    (hd : decode c.code g.pc = .ok (.invokestatic index, 3))
    (k : ∀ (T' : State) (v : Option Value) (L : List Loc), Stand p l e R s m args below meth c T' (locs ++ L) (cells + rm.cells) (slots + rm.slots) → Q' v T'.heap L → G (T'.setTop { g with pc := g.pc + 3, stack := v.toList ++ rest })) : G (T.setTop g) := by
  obtain ⟨v, _, ⟨T', L', k', n'⟩, -, X', ⟨Lc, hQ, l1, l2, l3⟩, st⟩ := Jvm.LawKit.callS X hx hown (mvT hZ w1) (mvT hZ w2) (mvT hZ w3) (mvT hZ w4) hy (backOf (W := W) (K []) hZ w4 w3 hf hlo) hg hsize hlen hstack hW hd (fun _ _ => ⟨rfl, eT, hc, hs⟩)
  dsimp only [Pt.U, Pt.locs, Pt.cells, Pt.slots] at X' l1 l2 l3 st hQ
  subst l1 l2 l3
  exact hG st (k T' v Lc X' hQ)
theorem callSpecial (hG : ∀ {a b : State}, (∀ t, Steps p.tables e below b t → Steps p.tables e below a t) → G b → G a) (X : Stand p l e R s m args below meth c T locs cells slots) (hx : p.tables.exec = Jvm.exec) (hZ : Z.Warmed39 s.vm) {own : String} {index : Nat} {y : MethodName} {bytes : ByteArray} {maxL : Nat} {rm : Room} {Q' : Option Value → Heap → List Loc → Prop} {a : Addr} {argsL : List Value} (hy1 : y.name = "<init>")
    (hown : s.vm.findClass own = some m.cls) (w1 : (Cond.methodLink own index y).before a0 Z = true) (w2 : (Cond.instanceMethod y).before a0 Z = true) (w3 : (Cond.initialized y.cls).before a0 Z = true) (w4 : (Cond.code y bytes maxL none).before a0 Z = true)
    (hy : y.cls ≠ "java/lang/invoke/MethodHandle" ∧ y.cls ≠ "java/lang/invoke/VarHandle") (W : Nat) (eT : T.heap = h) (K : Con l Z y bytes maxL none rm (Value.ref a :: argsL).toArray h Q') (hf : rm.frames + 1 ≤ R.frames) (hlo : W + (maxL + 11) + rm.locals ≤ R.locals) (hc : cells + rm.cells ≤ R.cells) (hs : slots + rm.slots ≤ R.slots)
    {g : JFrame} (hg : g.method = m) (hsize : g.locals.size = c.maxLocals) {rest : List Value} (hlen : ∀ sig, parseMethodDescriptor y.desc = some sig → argsL.length = sig.parameters.length) (hstack : g.stack = argsL.reverse ++ .ref a :: rest) (hW : 2 * g.monitorRoom + (rest.map fun v => v.category).sum ≤ W)
    (hd : decode c.code g.pc = .ok (.invokespecial index, 3))
    (k : ∀ (T' : State) (v : Option Value) (L : List Loc), Stand p l e R s m args below meth c T' (locs ++ L) (cells + rm.cells) (slots + rm.slots) → Q' v T'.heap L → G (T'.setTop { g with pc := g.pc + 3, stack := v.toList ++ rest })) : G (T.setTop g) := by
  obtain ⟨v, _, ⟨T', L', k', n'⟩, -, X', ⟨Lc, hQ, l1, l2, l3⟩, st⟩ := X.specialBack hx hy1 hown (mvT hZ w1) (mvT hZ w2) (mvT hZ w4) hy (backOf (W := W) (K []) hZ w4 w3 hf hlo) hg hsize (Steps.refl _) hlen hstack hW hd (fun _ _ => ⟨rfl, eT, hc, hs⟩)
  dsimp only [Pt.U, Pt.locs, Pt.cells, Pt.slots] at X' l1 l2 l3 st hQ
  subst l1 l2 l3
  exact hG (fun _ q => st.trans q) (k T' v Lc X' hQ)
theorem callVirtual (hG : ∀ {a b : State}, (∀ t, Steps p.tables e below b t → Steps p.tables e below a t) → G b → G a) (X : Stand p l e R s m args below meth c T locs cells slots) (hx : p.tables.exec = Jvm.exec) (hZ : Z.Warmed39 s.vm) {own C : String} {index : Nat} {y z : MethodName} {bytes : ByteArray} {maxL : Nat} {ret : Option FieldType} {rm : Room} {Q' : Option Value → Heap → List Loc → Prop} {a : Addr} {argsL : List Value}
    (hown : s.vm.findClass own = some m.cls) (w1 : (Cond.methodLink own index y).before a0 Z = true) (w2 : (Cond.declares y).before a0 Z = true) (hnf : NotFace s y) (w5 : (Cond.selects C y z).before a0 Z = true) (w6 : (Cond.instanceMethod z).before a0 Z = true) (w3 : (Cond.initialized z.cls).before a0 Z = true) (w4 : (Cond.code z bytes maxL ret).before a0 Z = true)
    (hy : y.cls ≠ "java/lang/invoke/MethodHandle" ∧ y.cls ≠ "java/lang/invoke/VarHandle") (W : Nat) (eT : T.heap = h) (E : Exa Z h a C) (K : Con l Z z bytes maxL ret rm (Value.ref a :: argsL).toArray h Q') (hf : rm.frames + 1 ≤ R.frames) (hlo : W + (maxL + 11) + rm.locals ≤ R.locals) (hc : cells + rm.cells ≤ R.cells) (hs : slots + rm.slots ≤ R.slots)
    {g : JFrame} (hg : g.method = m) (hsize : g.locals.size = c.maxLocals) {rest : List Value} (hlen : ∀ sig, parseMethodDescriptor y.desc = some sig → argsL.length = sig.parameters.length) (hstack : g.stack = argsL.reverse ++ .ref a :: rest) (hW : 2 * g.monitorRoom + (rest.map fun v => v.category).sum ≤ W)
    (hd : decode c.code g.pc = .ok (.invokevirtual index, 3))
    (k : ∀ (T' : State) (v : Option Value) (L : List Loc), Stand p l e R s m args below meth c T' (locs ++ L) (cells + rm.cells) (slots + rm.slots) → Q' v T'.heap L → G (T'.setTop { g with pc := g.pc + 3, stack := v.toList ++ rest })) : G (T.setTop g) := by
  obtain ⟨cq, kq, qa, -, qc⟩ := isOf hZ eT E
  obtain ⟨v, _, ⟨T', L', k', n'⟩, -, X', ⟨Lc, hQ, l1, l2, l3⟩, st⟩ := X.virtualBack hx hown (mvT hZ w1) (mvT hZ w2) hnf (mvT hZ w5) (mvT hZ w6) hy (backOf (W := W) (K []) hZ w4 w3 hf hlo) qa qc hg hsize (Steps.refl _) hlen hstack hW hd (fun _ _ => ⟨rfl, eT, hc, hs⟩)
  dsimp only [Pt.U, Pt.locs, Pt.cells, Pt.slots] at X' l1 l2 l3 st hQ
  subst l1 l2 l3
  exact hG (fun _ q => st.trans q) (k T' v Lc X' hQ)
end Wide
end Jvm.OwnKit
namespace Jvm.OwnKit
open Sem ClassFile Op Lib Jvm.Stand Jvm.Free Jvm.LawKit Jvm.RoadKit
section Arrays
variable {p : Program} {l : Launch} {e : Env} {R : Room} {s : State} {m : MethodId} {args : Array Value} {below : List Frame} {meth : Method} {c : Code} {T : State} {locs : List Loc} {cells slots : Nat} {Z : State} {a0 : Array Value} {h h' : Heap} {a b : Addr} {k : ClassId} {ty : FieldType} {n i : Nat} {f : Nat → Value} {sl : Nat} {v w : Value} {ws : List Addr} {j : Int32}
/-- the array at a: its class, its kind, its length, what it holds -/
def AF (Z : State) (h : Heap) (a : Addr) (k : ClassId) (ty : FieldType) (n : Nat) (f : Nat → Value) : Prop :=
  ∃ c : Cell, Arr Z h a c ty ∧ c.cls = k ∧ c.slots.size = n ∧ n < 2 ^ 31 ∧ ∀ i, i < n → c.slots[i]? = some (f i)
def updV (f : Nat → Value) (i : Nat) (v : Value) : Nat → Value := fun k => if k = i then v else f k
def upI (f : Nat → Int32) (i : Nat) (v : Int32) : Nat → Int32 := fun k => if k = i then v else f k
/-- the index j is the place i of an array of n -/
def Ix (j : Int32) (i n : Nat) : Prop := j.toNatClampNeg = i ∧ ¬ j < 0 ∧ i < n
theorem Ix.not_out {c : Cell} (q : Ix j i n) (S : c.slots.size = n) : ¬ (j < 0 ∨ c.slots.size ≤ j.toNatClampNeg) := by
  obtain ⟨q1, q2, q3⟩ := q
  rintro (r | r)
  · exact q2 r
  · rw [q1, S] at r; exact absurd q3 (Nat.not_lt.mpr r)
theorem AF.new {z : Int32} {d : Value} (A : Arr Z h a (newA k ty z) ty) (q : ¬ z < 0) (e : z.toNatClampNeg = n) (hd : defaultValue ty = d) : AF Z h a k ty n (fun _ => d) :=
  ⟨_, A, rfl, by rw [sz_new, e], by rw [← e]; exact (back32 q).2, fun i hi => by simp [newA, e, hi, hd]⟩
theorem AF.lt (F : AF Z h a k ty n f) : a < h.size := by obtain ⟨c, A, -⟩ := F; exact A.lt
theorem AF.ext (F : AF Z h a k ty n f) (E : Ext h h') : AF Z h' a k ty n f := by obtain ⟨c, A, r⟩ := F; exact ⟨c, A.ext E, r⟩
theorem AF.other (F : AF Z h b k ty n f) (W : Wr h h' a sl v) (q : b ≠ a) : AF Z h' b k ty n f := by obtain ⟨c, A, r⟩ := F; exact ⟨c, A.other W q, r⟩
theorem AF.keep (F : AF Z h a k ty n f) (K : Keep h h' ws) (q : a ∉ ws) : AF Z h' a k ty n f := by obtain ⟨c, A, r⟩ := F; exact ⟨c, ⟨K.2.1 a c A.1 q, A.2⟩, r⟩
theorem AF.cast {g : Nat → Value} (F : AF Z h a k ty n f) (q : ∀ i, i < n → f i = g i) : AF Z h a k ty n g := by obtain ⟨c, A, r1, r2, r3, H⟩ := F; exact ⟨c, A, r1, r2, r3, fun i hi => by rw [H i hi, q i hi]⟩
theorem AF.set (F : AF Z h a k ty n f) (W : Wr h h' a j.toNatClampNeg v) (q : Ix j i n) : AF Z h' a k ty n (updV f i v) := by
  obtain ⟨c, A, r1, r2, r3, H⟩ := F
  refine ⟨_, Arr.same W A, r1, by rw [sz_set]; exact r2, r3, fun x hx => ?_⟩
  rw [q.1]
  by_cases e : x = i
  · subst e
    simp [Cell.setSlot, updV, r2, hx]
  · have : (c.setSlot i v).slots[x]? = c.slots[x]? := Array.getElem?_setIfInBounds_ne (Ne.symm e)
    rw [this, H x hx]; simp [updV, e]
theorem AF.toI {g : Nat → Int32} {x : Int32} (F : AF Z h a k ty n (updV (fun i => .int (g i)) i (.int x))) : AF Z h a k ty n (fun j => .int ((upI g i x) j)) := F.cast fun j _ => by simp only [updV, upI]; split <;> rfl
theorem AF.length (F : AF Z h a k ty n f) (X : Stand p l e R s m args below meth c T locs cells slots) (hx : p.tables.exec = Jvm.exec) (hZ : Z.Warmed39 s.vm) (eT : T.heap = h) {z : Int32} (hz : n.toInt32 = z) {g : JFrame} (hg : g.method = m) {rest : List Value} (hs : g.stack = .ref a :: rest) (hd : decode c.code g.pc = .ok (.arraylength, 1)) {target : State}
    (q : Steps p.tables e below (T.setTop { g with pc := g.pc + 1, stack := .int z :: rest }) target) : Steps p.tables e below (T.setTop g) target := by
  obtain ⟨cl, A, r1, r2, r3, H⟩ := F
  refine X.arraylength hx (by rw [eT]; exact A.1) (State.isArrayOf_alike hZ.alike A.2.1) hg hs hd _ ?_
  rw [r2, hz]
  exact q
theorem AF.iaload (F : AF Z h a k .int n f) (X : Stand p l e R s m args below meth c T locs cells slots) (hx : p.tables.exec = Jvm.exec) (hZ : Z.Warmed39 s.vm) (eT : T.heap = h) (hi : Ix j i n) (hv : f i = v) {g : JFrame} (hg : g.method = m) {rest : List Value} (hs : g.stack = .int j :: .ref a :: rest) (hd : decode c.code g.pc = .ok (.iaload, 1)) {target : State}
    (q : Steps p.tables e below (T.setTop { g with pc := g.pc + 1, stack := v :: rest }) target) : Steps p.tables e below (T.setTop g) target := by
  obtain ⟨cl, A, r1, r2, r3, H⟩ := F
  exact X.iaload hx (by rw [eT]; exact A.1) (State.isArrayOf_alike hZ.alike A.2.1) A.2.2 (hi.not_out r2) (by rw [hi.1, H i hi.2.2, hv]) hg hs hd _ q
theorem AF.caload (F : AF Z h a k .char n f) (X : Stand p l e R s m args below meth c T locs cells slots) (hx : p.tables.exec = Jvm.exec) (hZ : Z.Warmed39 s.vm) (eT : T.heap = h) (hi : Ix j i n) (hv : f i = v) {g : JFrame} (hg : g.method = m) {rest : List Value} (hs : g.stack = .int j :: .ref a :: rest) (hd : decode c.code g.pc = .ok (.caload, 1)) {target : State}
    (q : Steps p.tables e below (T.setTop { g with pc := g.pc + 1, stack := v :: rest }) target) : Steps p.tables e below (T.setTop g) target := by
  obtain ⟨cl, A, r1, r2, r3, H⟩ := F
  exact X.caload hx (by rw [eT]; exact A.1) (State.isArrayOf_alike hZ.alike A.2.1) A.2.2 (hi.not_out r2) (by rw [hi.1, H i hi.2.2, hv]) hg hs hd _ q
theorem AF.baload (F : AF Z h a k .byte n f) (X : Stand p l e R s m args below meth c T locs cells slots) (hx : p.tables.exec = Jvm.exec) (hZ : Z.Warmed39 s.vm) (eT : T.heap = h) (hi : Ix j i n) (hv : f i = v) {g : JFrame} (hg : g.method = m) {rest : List Value} (hs : g.stack = .int j :: .ref a :: rest) (hd : decode c.code g.pc = .ok (.baload, 1)) {target : State}
    (q : Steps p.tables e below (T.setTop { g with pc := g.pc + 1, stack := v :: rest }) target) : Steps p.tables e below (T.setTop g) target := by
  obtain ⟨cl, A, r1, r2, r3, H⟩ := F
  exact X.baloadBytes hx (by rw [eT]; exact A.1) (State.isArrayOf_alike hZ.alike A.2.1) A.2.2 (hi.not_out r2) (by rw [hi.1, H i hi.2.2, hv]) hg hs hd _ q
theorem AF.aaload (F : AF Z h a k ty n f) (hty : ty.isReference = true) (X : Stand p l e R s m args below meth c T locs cells slots) (hx : p.tables.exec = Jvm.exec) (hZ : Z.Warmed39 s.vm) (eT : T.heap = h) (hi : Ix j i n) (hv : f i = v) {g : JFrame} (hg : g.method = m) {rest : List Value} (hs : g.stack = .int j :: .ref a :: rest) (hd : decode c.code g.pc = .ok (.aaload, 1)) {target : State}
    (q : Steps p.tables e below (T.setTop { g with pc := g.pc + 1, stack := v :: rest }) target) : Steps p.tables e below (T.setTop g) target := by
  obtain ⟨cl, A, r1, r2, r3, H⟩ := F
  exact X.aaload hx (by rw [eT]; exact A.1) (State.isArrayOf_alike hZ.alike A.2.1) hty A.2.2 (hi.not_out r2) (by rw [hi.1, H i hi.2.2, hv]) hg hs hd _ q
theorem AF.iastore (F : AF Z h a k .int n f) (X : Stand p l e R s m args below meth c T locs cells slots) (hx : p.tables.exec = Jvm.exec) (hZ : Z.Warmed39 s.vm) (eT : T.heap = h) (hi : Ix j i n) {x : Int32} {g : JFrame} (hg : g.method = m) {rest : List Value} (hs : g.stack = .int x :: .int j :: .ref a :: rest) (hd : decode c.code g.pc = .ok (.iastore, 1)) :
    ∃ T' h', Stand p l e R s m args below meth c T' (locs ++ [⟨a, j.toNatClampNeg⟩]) cells slots ∧ T'.heap = h' ∧ Wr h h' a j.toNatClampNeg (.int x) ∧ AF Z h' a k .int n (updV f i (.int x)) ∧ ∀ target, Steps p.tables e below (T'.setTop { g with pc := g.pc + 1, stack := rest }) target → Steps p.tables e below (T.setTop g) target := by
  have F0 := F
  obtain ⟨cl, A, r1, r2, r3, H⟩ := F
  obtain ⟨T', h', X', e', W', st'⟩ := stI X hx hZ eT A (hi.not_out r2) hg hs hd
  exact ⟨T', h', X', e', W', F0.set W' hi, st'⟩
theorem AF.castore (F : AF Z h a k .char n f) (X : Stand p l e R s m args below meth c T locs cells slots) (hx : p.tables.exec = Jvm.exec) (hZ : Z.Warmed39 s.vm) (eT : T.heap = h) (hi : Ix j i n) {x : Int32} {g : JFrame} (hg : g.method = m) {rest : List Value} (hs : g.stack = .int x :: .int j :: .ref a :: rest) (hd : decode c.code g.pc = .ok (.castore, 1)) :
    ∃ T' h', Stand p l e R s m args below meth c T' (locs ++ [⟨a, j.toNatClampNeg⟩]) cells slots ∧ T'.heap = h' ∧ Wr h h' a j.toNatClampNeg (.int (nar .char x)) ∧ AF Z h' a k .char n (updV f i (.int (nar .char x))) ∧ ∀ target, Steps p.tables e below (T'.setTop { g with pc := g.pc + 1, stack := rest }) target → Steps p.tables e below (T.setTop g) target := by
  have F0 := F
  obtain ⟨cl, A, r1, r2, r3, H⟩ := F
  obtain ⟨T', h', X', e', W', st'⟩ := stC X hx hZ eT A (hi.not_out r2) hg hs hd
  exact ⟨T', h', X', e', W', F0.set W' hi, st'⟩
theorem AF.bastore (F : AF Z h a k .byte n f) (X : Stand p l e R s m args below meth c T locs cells slots) (hx : p.tables.exec = Jvm.exec) (hZ : Z.Warmed39 s.vm) (eT : T.heap = h) (hi : Ix j i n) {x : Int32} {g : JFrame} (hg : g.method = m) {rest : List Value} (hs : g.stack = .int x :: .int j :: .ref a :: rest) (hd : decode c.code g.pc = .ok (.bastore, 1)) :
    ∃ T' h', Stand p l e R s m args below meth c T' (locs ++ [⟨a, j.toNatClampNeg⟩]) cells slots ∧ T'.heap = h' ∧ Wr h h' a j.toNatClampNeg (.int x.toInt8.toInt32) ∧ AF Z h' a k .byte n (updV f i (.int x.toInt8.toInt32)) ∧ ∀ target, Steps p.tables e below (T'.setTop { g with pc := g.pc + 1, stack := rest }) target → Steps p.tables e below (T.setTop g) target := by
  have F0 := F
  obtain ⟨cl, A, r1, r2, r3, H⟩ := F
  obtain ⟨T', h', X', e', W', st'⟩ := stB X hx hZ eT A (hi.not_out r2) hg hs hd
  exact ⟨T', h', X', e', W', F0.set W' hi, st'⟩
theorem AF.aastore (F : AF Z h a k ty n f) (hty : ty.isReference = true) (X : Stand p l e R s m args below meth c T locs cells slots) (hx : p.tables.exec = Jvm.exec) (hZ : Z.Warmed39 s.vm) (eT : T.heap = h) (hi : Ix j i n) (hsto : Sto Z h a v) {g : JFrame} (hg : g.method = m) {rest : List Value} (hs : g.stack = v :: .int j :: .ref a :: rest) (hd : decode c.code g.pc = .ok (.aastore, 1)) :
    ∃ T' h', Stand p l e R s m args below meth c T' (locs ++ [⟨a, j.toNatClampNeg⟩]) cells slots ∧ T'.heap = h' ∧ Wr h h' a j.toNatClampNeg v ∧ AF Z h' a k ty n (updV f i v) ∧ ∀ target, Steps p.tables e below (T'.setTop { g with pc := g.pc + 1, stack := rest }) target → Steps p.tables e below (T.setTop g) target := by
  have F0 := F
  obtain ⟨cl, A, r1, r2, r3, H⟩ := F
  obtain ⟨T', h', X', e', W', st'⟩ := stR X hx hZ eT A (hi.not_out r2) hty hsto hg hs hd
  exact ⟨T', h', X', e', W', F0.set W' hi, st'⟩
theorem AF.ofArv {z : Int32} {vs : List Value} {d : Value} (F : Arv Z h a k ty z vs d) (hz : z.toNatClampNeg = n) (q : ∀ i, i < n → vs.getD i d = f i) : AF Z h a k ty n f := by
  obtain ⟨cl, A, r1, r2, r3, H, -⟩ := F
  refine ⟨cl, A, r1, by rw [r2, hz], by rw [← hz]; exact (back32 r3).2, fun i hi => ?_⟩
  rw [H i (by rw [r2, hz]; exact hi), q i hi]
theorem AF.sto {C : String} {y : Addr} (F : AF Z h a k ty n f) (O : Ovr Z k C) (I : Ins Z h y C true) : Sto Z h a (.ref y) := by
  obtain ⟨cl, A, r1, -⟩ := F
  exact Sto.ofV A r1 O I
end Arrays
end Jvm.OwnKit
namespace Jvm.Pilot.@@N@@
open Jvm Jvm.ClassFile Sem Op Lib Jvm.Free Jvm.Stand Jvm.LawKit Jvm.RoadKit Jvm.OwnKit Bundle Jvm.Pilot.@@N@@.Jvm.D
theorem eqi_no {args : Array Value} {first s : State} {o : Option Outcome} {idx : List Nat} {t : Term} {n x : Int32} (h : (Jvm.Cond.not (Jvm.Cond.eq t (.int n))).value args first o s idx = some true) (e : t.eval args first o idx s = some (.int x)) : ¬ x = n := by
  have q := not_v h
  intro r
  subst r
  simp [Cond.value, e, Term.eval] at q
def own_by (c : Int32) : Int32 := c.toInt8.toInt32
theorem own_by2 (c : Int32) : c.toInt8.toInt32.toInt8.toInt32 = own_by c := by
  unfold own_by
  have : c.toInt8.toInt32.toInt8 = c.toInt8 := Int8.toInt8_toInt32 _
  rw [this]
theorem own_chr (y : Int32) : ¬ (255 : Int32) < (y &&& (255 : Int32)).toUInt32.toUInt16.toUInt32.toInt32 := by
  rw [i2c_mask, Int32.lt_iff_toInt_lt]
  have := (c_and y 255 (by decide)).2
  have e : (255 : Int32).toInt = 255 := by decide
  omega
theorem own_chr2 (y : Int32) : ¬ (255 : Int32) < (y &&& (255 : Int32)).toUInt32.toUInt16.toUInt32.toInt32.toUInt32.toUInt16.toUInt32.toInt32 := by
  rw [i2c_mask]; exact own_chr y
theorem own_i2c2 (y : Int32) : (y &&& (255 : Int32)).toUInt32.toUInt16.toUInt32.toInt32.toUInt32.toUInt16.toUInt32.toInt32 = (y &&& (255 : Int32)) := by
  rw [i2c_mask, i2c_mask]
theorem own_six (x : Int32) : ((x &&& (2147483647 : Int32)) % (6 : Int32)) = (0 : Int32) ∨ ((x &&& (2147483647 : Int32)) % (6 : Int32)) = (1 : Int32) ∨ ((x &&& (2147483647 : Int32)) % (6 : Int32)) = (2 : Int32) ∨ ((x &&& (2147483647 : Int32)) % (6 : Int32)) = (3 : Int32) ∨ ((x &&& (2147483647 : Int32)) % (6 : Int32)) = (4 : Int32) ∨ ((x &&& (2147483647 : Int32)) % (6 : Int32)) = (5 : Int32) := by
  have h := c_and x 2147483647 (by decide)
  generalize (x &&& (2147483647 : Int32)) = y at *
  have k : (y % (6 : Int32)).toInt = y.toInt % 6 := by
    rw [Int32.toInt_mod, Int.tmod_eq_emod_of_nonneg h.1]; rfl
  simp only [← Int32.toInt_inj]
  rw [k]
  show y.toInt % 6 = 0 ∨ y.toInt % 6 = 1 ∨ y.toInt % 6 = 2 ∨ y.toInt % 6 = 3 ∨ y.toInt % 6 = 4 ∨ y.toInt % 6 = 5
  omega
def own_ch (b : Int32) : Int32 := (b &&& (255 : Int32)).toUInt32.toUInt16.toUInt32.toInt32
theorem own_nc (b : Int32) : nar .char (own_ch b) = own_ch b := by
  unfold own_ch
  show (b &&& (255 : Int32)).toUInt32.toUInt16.toUInt32.toInt32.toUInt32.toUInt16.toUInt32.toInt32 = _
  rw [i2c_mask, i2c_mask]
theorem own_bych (c : Int32) : (own_by c) &&& 255 = c &&& 255 := by
  unfold own_by
  apply Int32.toBitVec_inj.mp
  rw [Int32.toBitVec_and, Int32.toBitVec_and]
  apply BitVec.eq_of_getLsbD_eq
  intro i hi
  rw [BitVec.getLsbD_and, BitVec.getLsbD_and]
  by_cases h : i < 8
  · congr 1
    show ((c.toBitVec.signExtend 8).signExtend 32).getLsbD i = _
    rw [BitVec.getLsbD_signExtend, BitVec.getLsbD_signExtend]
    simp [h, hi]
  · have e : (255 : Int32).toBitVec.getLsbD i = false := by
      show (255#32).getLsbD i = false
      simp only [BitVec.getLsbD, BitVec.toNat_ofNat]
      exact Nat.testBit_lt_two_pow (Nat.lt_of_lt_of_le (by decide) (Nat.pow_le_pow_right (by decide : 1 ≤ 2) (Nat.le_of_not_lt h)))
    rw [e, Bool.and_false, Bool.and_false]
theorem own_chk (y : Int32) : own_ch (own_by ((y &&& (255 : Int32)).toUInt32.toUInt16.toUInt32.toInt32.toUInt32.toUInt16.toUInt32.toInt32)) = (y &&& (255 : Int32)).toUInt32.toUInt16.toUInt32.toInt32 := by
  unfold own_ch
  rw [i2c_mask, i2c_mask, i2c_mask, own_bych, Int32.and_assoc]
  rfl
def own_up (x : Int32) : Int32 := if x < (65 : Int32) then (0 : Int32) else if (90 : Int32) < x then (0 : Int32) else (1 : Int32)
def own_cur (a b c : Int32) : Int32 := if a < (65 : Int32) then (0 : Int32) else if (90 : Int32) < a then (0 : Int32) else if b < (65 : Int32) then (0 : Int32) else if (90 : Int32) < b then (0 : Int32) else if c < (65 : Int32) then (0 : Int32) else if (90 : Int32) < c then (0 : Int32) else (1 : Int32)
theorem own_up0 (x : Int32) : own_up x = 0 ↔ (x < (65 : Int32) ∨ (90 : Int32) < x) := by
  unfold own_up
  by_cases h : x < (65 : Int32)
  · rw [if_pos h]; exact ⟨fun _ => Or.inl h, fun _ => rfl⟩
  · rw [if_neg h]
    by_cases k : (90 : Int32) < x
    · rw [if_pos k]; exact ⟨fun _ => Or.inr k, fun _ => rfl⟩
    · rw [if_neg k]; exact ⟨fun q => absurd q (by decide), fun q => absurd q (fun r => r.elim h k)⟩
theorem own_cur_eq (a b c : Int32) : own_cur a b c = if own_up a = 0 then (0 : Int32) else if own_up b = 0 then (0 : Int32) else if own_up c = 0 then (0 : Int32) else (1 : Int32) := by
  have key : ∀ (x : Int32) (r : Int32), (if x < (65 : Int32) then (0 : Int32) else if (90 : Int32) < x then (0 : Int32) else r) = if own_up x = 0 then (0 : Int32) else r := by
    intro x r
    by_cases h : own_up x = 0
    · rw [if_pos h]
      by_cases k : x < (65 : Int32)
      · rw [if_pos k]
      · rw [if_neg k, if_pos (((own_up0 x).mp h).resolve_left k)]
    · have n := mt (own_up0 x).mpr h
      rw [if_neg h, if_neg (fun k => n (Or.inl k)), if_neg (fun k => n (Or.inr k))]
  unfold own_cur
  rw [key, key, key]
theorem fld_ne {Z : State} {h : Heap} {a b : Addr} {C n d : String} {v w : Value} (F : Jvm.RoadKit.Fld Z h a C n d v) (G : Jvm.RoadKit.Fld Z h b C n d w) (q : v ≠ w) : a ≠ b := by
  rintro rfl
  obtain ⟨c1, f1, k1, i1, x1, p1, p2, -, -, -, -, p3⟩ := F
  obtain ⟨c2, f2, k2, i2, x2, r1, r2, -, -, -, -, r3⟩ := G
  rw [p1] at r1; cases r1
  rw [p2] at r2; cases r2
  rw [p3] at r3; exact q (Option.some.inj r3)
theorem af0_ne {Z : State} {h : Heap} {a b : Addr} {k : ClassId} {ty : FieldType} {f : Nat → Value} {C n d : String} {v : Value} (A : AF Z h b k ty 0 f) (F : Jvm.RoadKit.Fld Z h a C n d v) : b ≠ a := by
  rintro rfl
  obtain ⟨c, q1, -, q2, -⟩ := A
  obtain ⟨c1, f1, k1, i1, x1, p1, -, -, -, -, -, p3⟩ := F
  rw [q1.1] at p1; cases p1
  have := (Array.getElem?_eq_some_iff.mp p3).1
  omega
def own_p3 (x y z : Int32) (i : Nat) : Int32 := if i = 0 then x.toUInt32.toUInt16.toUInt32.toInt32 else if i = 1 then y.toUInt32.toUInt16.toUInt32.toInt32 else z.toUInt32.toUInt16.toUInt32.toInt32
theorem ref_v {args : Array Value} {first s : State} {o : Option Outcome} {idx : List Nat} {t : Term} (h : (Jvm.Cond.isRef t).value args first o s idx = some true) : ∃ v, t.eval args first o idx s = some v ∧ v.isRef = true := by
  simp only [Cond.value] at h
  cases q : t.eval args first o idx s with
  | none => simp [q] at h
  | some v => exact ⟨v, rfl, by cases v <;> simp [q, Value.isRef] at h ⊢⟩
theorem own_fin {a b c : Int32} {z : Int32} (h : (if own_up a = 0 then (0 : Int32) else if own_up b = 0 then (0 : Int32) else if own_up c = 0 then (0 : Int32) else (1 : Int32)) = z) : own_cur a b c = z := (own_cur_eq a b c).trans h
theorem d13_0 : decode jdk_42_method_154_code 0 = .ok (.getstatic 38, 3) := by decide +kernel
theorem d13_3 : decode jdk_42_method_154_code 3 = .ok (.ifCond .eq 14, 3) := by decide +kernel
theorem d13_6 : decode jdk_42_method_154_code 6 = .ok (.aload_n 0, 1) := by decide +kernel
theorem d13_7 : decode jdk_42_method_154_code 7 = .ok (.getfield 15, 3) := by decide +kernel
theorem d13_10 : decode jdk_42_method_154_code 10 = .ok (.ifCond .ne 7, 3) := by decide +kernel
theorem d13_13 : decode jdk_42_method_154_code 13 = .ok (.iconst 1, 1) := by decide +kernel
theorem d13_14 : decode jdk_42_method_154_code 14 = .ok (.goto 4, 3) := by decide +kernel
theorem d13_18 : decode jdk_42_method_154_code 18 = .ok (.ireturn, 1) := by decide +kernel
theorem pn0 : plainName "java/lang/String" = true := by first | (simp [plainName, overriddenIn]; done) | decide +kernel
theorem ef_13 (m : MethodId) (a : Addr) : entryFrame m #[(.ref a)] 1 = mkF m 0 #[.val (.ref a)] [] := by first | (simp [entryFrame, mkF, argsToLocals, Value.category]; done) | rfl
def Q13 (Z : State) (a : Addr) (cs : Int32) (h0 : Heap) (n0 : Nat) (v : Option Value) (h : Heap) (L : List Loc) : Prop := v = some (.int (1 : Int32)) ∧ Fr n0 L ∧ h = h0
set_option maxRecDepth 65536 in
set_option maxHeartbeats 40000000 in
theorem rm13 (l : Launch) (Z : State) (a0 : Array Value) (hw : ∀ d ∈ tables_1, d.before a0 Z = true) (a : Addr) (cs : Int32) (h0 : Heap) (n0 : Nat) (Zs : n0 ≤ h0.size) (Od : Old Z n0 h0) (F_a_coder : Fld Z h0 a "java/lang/String" "coder" "B" (.int (0 : Int32))) (Scs : Sta Z Z.heap "java/lang/String" "COMPACT_STRINGS" "Z" (.int cs)) (hcs : ¬ cs = (0 : Int32)) :
    Con l Z (⟨"java/lang/String", "isLatin1", "()Z"⟩ : MethodName) jdk_42_method_154_code 1 (some .boolean) ({ frames := 0, cells := 0, slots := 0, locals := 0 } : Room) #[(.ref a)] h0 (Q13 Z a cs h0 n0) := by
  refine Con.intro (plainFor_of_name pn0) (fun m => ef_13 m a) ?_
  intro p e s m below meth c s₁ hx hby hml0 hZ hown hnm hret hlk X0 e0
  have hml : c.maxLocals = 1 := hml0
  have N0 := Fr.nil n0
  have Kp : Keep h0 h0 [] := Keep.refl h0 _
  show Go _ _ _ _ _ _ _ (s₁.setTop (mkF m 0 #[.val (.ref a)] []))
  obtain ⟨T1, X1, e1, st1⟩ := getS2 X0 hx hZ hown (host := "") (Or.inl (hw _ (List.mem_of_getElem? (i := 19) rfl))) Via.refl e0 (Sta.ext Od.2 Scs) (g := (mkF m 0 #[.val (.ref a)] [])) rfl (hb hby d13_0)
  refine Go.of st1 ?_
  show Go _ _ _ _ _ _ _ (T1.setTop (mkF m 3 #[.val (.ref a)] [(.int cs)]))
  refine Go.of (fun _ q => XS.ifNo X1.here hx rfl (hb hby d13_3) rfl ((if0 _ _).trans (feq hcs).1) q) ?_
  show Go _ _ _ _ _ _ _ (T1.setTop (mkF m 6 #[.val (.ref a)] []))
  refine Go.of (fun _ q => XS.aloadN X1.here hx rfl (hb hby d13_6) rfl rfl q) ?_
  show Go _ _ _ _ _ _ _ (T1.setTop (mkF m 7 #[.val (.ref a)] [(.ref a)]))
  obtain ⟨T2, X2, e2, st2⟩ := getF X1 hx hZ hown (host := "") (Or.inl (hw _ (List.mem_of_getElem? (i := 31) rfl))) Via.refl e1 F_a_coder (g := (mkF m 7 #[.val (.ref a)] [(.ref a)])) rfl rfl (hb hby d13_7)
  refine Go.of st2 ?_
  show Go _ _ _ _ _ _ _ (T2.setTop (mkF m 10 #[.val (.ref a)] [(.int (0 : Int32))]))
  refine Go.of (fun _ q => XS.ifNo X2.here hx rfl (hb hby d13_10) rfl ((if0 _ _).trans (teq rfl).2) q) ?_
  show Go _ _ _ _ _ _ _ (T2.setTop (mkF m 13 #[.val (.ref a)] []))
  refine Go.of (fun _ q => XS.iconst X2.here hx rfl (hb hby d13_13) q) ?_
  show Go _ _ _ _ _ _ _ (T2.setTop (mkF m 14 #[.val (.ref a)] [(.int (1 : Int32))]))
  refine Go.of (fun _ q => XS.goto X2.here hx rfl (pc0 := 14) (pc' := 18) rfl (hb hby d13_14) (by decide) (by decide) q) ?_
  show Go _ _ _ _ _ _ _ (T2.setTop (mkF m 18 #[.val (.ref a)] [(.int (1 : Int32))]))
  refine Go.retN X2 hx hlk (t := .boolean) hret (by simp) (hb hby d13_18) rfl (by decide) (by decide) ?_
  rw [e2]
  exact ⟨rfl, N0, rfl⟩
theorem d16_0 : decode jdk_41_method_11_code 0 = .ok (.iload_n 0, 1) := by decide +kernel
theorem d16_1 : decode jdk_41_method_11_code 1 = .ok (.ifCond .lt 8, 3) := by decide +kernel
theorem d16_4 : decode jdk_41_method_11_code 4 = .ok (.iload_n 0, 1) := by decide +kernel
theorem d16_5 : decode jdk_41_method_11_code 5 = .ok (.iload_n 1, 1) := by decide +kernel
theorem d16_6 : decode jdk_41_method_11_code 6 = .ok (.if_icmp .lt 10, 3) := by decide +kernel
theorem d16_16 : decode jdk_41_method_11_code 16 = .ok (.iload_n 0, 1) := by decide +kernel
theorem d16_17 : decode jdk_41_method_11_code 17 = .ok (.ireturn, 1) := by decide +kernel
theorem pn1 : plainName "jdk/internal/util/Preconditions" = true := by first | (simp [plainName, overriddenIn]; done) | decide +kernel
theorem ef_16_i0 (m : MethodId) (fm : Value) (hfm : fm.isRef = true) : entryFrame m #[(.int (0 : Int32)), (.int (3 : Int32)), fm] 3 = mkF m 0 #[.val (.int (0 : Int32)), .val (.int (3 : Int32)), .val fm] [] := by rcases ref_cases hfm with rfl | ⟨_, rfl⟩ <;> (first | (simp [entryFrame, mkF, argsToLocals, Value.category]; done) | rfl)
def Q16_i0 (Z : State) (fm : Value) (hfm : fm.isRef = true) (h0 : Heap) (n0 : Nat) (v : Option Value) (h : Heap) (L : List Loc) : Prop := v = some (.int (0 : Int32)) ∧ Fr n0 L ∧ h = h0
set_option maxRecDepth 65536 in
set_option maxHeartbeats 40000000 in
theorem rm16_i0 (l : Launch) (Z : State) (a0 : Array Value) (hw : ∀ d ∈ tables_1, d.before a0 Z = true) (fm : Value) (hfm : fm.isRef = true) (h0 : Heap) (n0 : Nat) (Zs : n0 ≤ h0.size)  :
    Con l Z (⟨"jdk/internal/util/Preconditions", "checkIndex", "(IILjava/util/function/BiFunction;)I"⟩ : MethodName) jdk_41_method_11_code 3 (some .int) ({ frames := 0, cells := 0, slots := 0, locals := 0 } : Room) #[(.int (0 : Int32)), (.int (3 : Int32)), fm] h0 (Q16_i0 Z fm hfm h0 n0) := by
  refine Con.intro (plainFor_of_name pn1) (fun m => ef_16_i0 m fm hfm) ?_
  intro p e s m below meth c s₁ hx hby hml0 hZ hown hnm hret hlk X0 e0
  have hml : c.maxLocals = 3 := hml0
  have N0 := Fr.nil n0
  have Kp : Keep h0 h0 [] := Keep.refl h0 _
  show Go _ _ _ _ _ _ _ (s₁.setTop (mkF m 0 #[.val (.int (0 : Int32)), .val (.int (3 : Int32)), .val fm] []))
  refine Go.of (fun _ q => XS.iloadN X0.here hx rfl (hb hby d16_0) rfl q) ?_
  show Go _ _ _ _ _ _ _ (s₁.setTop (mkF m 1 #[.val (.int (0 : Int32)), .val (.int (3 : Int32)), .val fm] [(.int (0 : Int32))]))
  refine Go.of (fun _ q => XS.ifNo X0.here hx rfl (hb hby d16_1) rfl ((if0 _ _).trans (flt (by decide)).1) q) ?_
  show Go _ _ _ _ _ _ _ (s₁.setTop (mkF m 4 #[.val (.int (0 : Int32)), .val (.int (3 : Int32)), .val fm] []))
  refine Go.of (fun _ q => XS.iloadN X0.here hx rfl (hb hby d16_4) rfl q) ?_
  show Go _ _ _ _ _ _ _ (s₁.setTop (mkF m 5 #[.val (.int (0 : Int32)), .val (.int (3 : Int32)), .val fm] [(.int (0 : Int32))]))
  refine Go.of (fun _ q => XS.iloadN X0.here hx rfl (hb hby d16_5) rfl q) ?_
  show Go _ _ _ _ _ _ _ (s₁.setTop (mkF m 6 #[.val (.int (0 : Int32)), .val (.int (3 : Int32)), .val fm] [(.int (3 : Int32)), (.int (0 : Int32))]))
  refine Go.of (fun _ q => XS.icmpYes X0.here hx rfl (pc0 := 6) (pc' := 16) rfl (hb hby d16_6) rfl (tlt (by decide)).1 (by decide) (by decide) q) ?_
  show Go _ _ _ _ _ _ _ (s₁.setTop (mkF m 16 #[.val (.int (0 : Int32)), .val (.int (3 : Int32)), .val fm] []))
  refine Go.of (fun _ q => XS.iloadN X0.here hx rfl (hb hby d16_16) rfl q) ?_
  show Go _ _ _ _ _ _ _ (s₁.setTop (mkF m 17 #[.val (.int (0 : Int32)), .val (.int (3 : Int32)), .val fm] [(.int (0 : Int32))]))
  refine Go.retI X0 hx hlk hret (hb hby d16_17) (by decide) (by decide) ?_
  rw [e0]
  exact ⟨rfl, N0, rfl⟩
theorem pd0 : parseMethodDescriptor "(IILjava/util/function/BiFunction;)I" = some ⟨[.int, .int, (.object "java/util/function/BiFunction")], some .int⟩ := by decide +kernel
theorem d15_0 : decode jdk_42_method_155_code 0 = .ok (.iload_n 0, 1) := by decide +kernel
theorem d15_1 : decode jdk_42_method_155_code 1 = .ok (.iload_n 1, 1) := by decide +kernel
theorem d15_2 : decode jdk_42_method_155_code 2 = .ok (.getstatic 1053, 3) := by decide +kernel
theorem d15_5 : decode jdk_42_method_155_code 5 = .ok (.invokestatic 1059, 3) := by decide +kernel
theorem d15_8 : decode jdk_42_method_155_code 8 = .ok (.pop, 1) := by decide +kernel
theorem d15_9 : decode jdk_42_method_155_code 9 = .ok (.return_, 1) := by decide +kernel
theorem ef_15_i0 (m : MethodId)  : entryFrame m #[(.int (0 : Int32)), (.int (3 : Int32))] 2 = mkF m 0 #[.val (.int (0 : Int32)), .val (.int (3 : Int32))] [] := by first | (simp [entryFrame, mkF, argsToLocals, Value.category]; done) | rfl
def Q15_i0 (Z : State) (fm : Value) (hfm : fm.isRef = true) (h0 : Heap) (n0 : Nat) (v : Option Value) (h : Heap) (L : List Loc) : Prop := v = none ∧ Fr n0 L ∧ h = h0
set_option maxRecDepth 65536 in
set_option maxHeartbeats 40000000 in
theorem rm15_i0 (l : Launch) (Z : State) (a0 : Array Value) (hw : ∀ d ∈ tables_1, d.before a0 Z = true) (fm : Value) (hfm : fm.isRef = true) (h0 : Heap) (n0 : Nat) (Zs : n0 ≤ h0.size) (Od : Old Z n0 h0) (Sfm : Sta Z Z.heap "jdk/internal/util/Preconditions" "SIOOBE_FORMATTER" "Ljava/util/function/BiFunction;" fm) :
    Con l Z (⟨"java/lang/String", "checkIndex", "(II)V"⟩ : MethodName) jdk_42_method_155_code 2 none ({ frames := 1, cells := 0, slots := 0, locals := 14 } : Room) #[(.int (0 : Int32)), (.int (3 : Int32))] h0 (Q15_i0 Z fm hfm h0 n0) := by
  refine Con.intro (plainFor_of_name pn0) (fun m => ef_15_i0 m ) ?_
  intro p e s m below meth c s₁ hx hby hml0 hZ hown hnm hret hlk X0 e0
  have hml : c.maxLocals = 2 := hml0
  have N0 := Fr.nil n0
  have Kp : Keep h0 h0 [] := Keep.refl h0 _
  show Go _ _ _ _ _ _ _ (s₁.setTop (mkF m 0 #[.val (.int (0 : Int32)), .val (.int (3 : Int32))] []))
  refine Go.of (fun _ q => XS.iloadN X0.here hx rfl (hb hby d15_0) rfl q) ?_
  show Go _ _ _ _ _ _ _ (s₁.setTop (mkF m 1 #[.val (.int (0 : Int32)), .val (.int (3 : Int32))] [(.int (0 : Int32))]))
  refine Go.of (fun _ q => XS.iloadN X0.here hx rfl (hb hby d15_1) rfl q) ?_
  show Go _ _ _ _ _ _ _ (s₁.setTop (mkF m 2 #[.val (.int (0 : Int32)), .val (.int (3 : Int32))] [(.int (3 : Int32)), (.int (0 : Int32))]))
  obtain ⟨T1, X1, e1, st1⟩ := getS2 X0 hx hZ hown (host := "") (Or.inl (hw _ (List.mem_of_getElem? (i := 69) rfl))) Via.refl e0 (Sta.ext Od.2 Sfm) (g := (mkF m 2 #[.val (.int (0 : Int32)), .val (.int (3 : Int32))] [(.int (3 : Int32)), (.int (0 : Int32))])) rfl (hb hby d15_2)
  refine Go.of st1 ?_
  show Go _ _ _ _ _ _ _ (T1.setTop (mkF m 5 #[.val (.int (0 : Int32)), .val (.int (3 : Int32))] [fm, (.int (3 : Int32)), (.int (0 : Int32))]))
  refine Go.static X1 hx hZ (y := (⟨"jdk/internal/util/Preconditions", "checkIndex", "(IILjava/util/function/BiFunction;)I"⟩ : MethodName)) (argsL := [(.int (0 : Int32)), (.int (3 : Int32)), fm]) hown (hw _ (List.mem_of_getElem? (i := 71) rfl)) (hw _ (List.mem_of_getElem? (i := 72) rfl)) (hw _ (List.mem_of_getElem? (i := 70) rfl)) (hw _ (List.mem_of_getElem? (i := 73) rfl)) (by decide) 0 e1 (rm16_i0 l Z a0 hw fm hfm h0 n0 Zs ) (by decide) (by decide) (by decide) (by decide) (g := (mkF m 5 #[.val (.int (0 : Int32)), .val (.int (3 : Int32))] [fm, (.int (3 : Int32)), (.int (0 : Int32))])) rfl (by rw [hml]; rfl) (rest := []) (lenOf pd0 rfl) rfl (by show 2 * 0 + _ ≤ _; exact Nat.le_of_eq rfl) (hb hby d15_5) ?_
  intro T2 v2 L2 X2 q2
  obtain ⟨rfl, Nq2, e2⟩ := q2
  have N2 := Fr.app N0 Nq2
  show Go _ _ _ _ _ _ _ (T2.setTop (mkF m 8 #[.val (.int (0 : Int32)), .val (.int (3 : Int32))] [(.int (0 : Int32))]))
  refine Go.of (fun _ q => XS.pop X2.here hx rfl (hb hby d15_8) rfl rfl q) ?_
  show Go _ _ _ _ _ _ _ (T2.setTop (mkF m 9 #[.val (.int (0 : Int32)), .val (.int (3 : Int32))] []))
  refine Go.retV X2 hx hlk hret (hb hby d15_9) (by decide) (by decide) ?_
  rw [e2]
  exact ⟨rfl, N2, rfl⟩
theorem pd1 : parseMethodDescriptor "(II)V" = some ⟨[.int, .int], none⟩ := by decide +kernel
theorem d14_0 : decode jdk_43_method_2_code 0 = .ok (.iload_n 1, 1) := by decide +kernel
theorem d14_1 : decode jdk_43_method_2_code 1 = .ok (.aload_n 0, 1) := by decide +kernel
theorem d14_2 : decode jdk_43_method_2_code 2 = .ok (.arraylength, 1) := by decide +kernel
theorem d14_3 : decode jdk_43_method_2_code 3 = .ok (.invokestatic 9, 3) := by decide +kernel
theorem d14_6 : decode jdk_43_method_2_code 6 = .ok (.aload_n 0, 1) := by decide +kernel
theorem d14_7 : decode jdk_43_method_2_code 7 = .ok (.iload_n 1, 1) := by decide +kernel
theorem d14_8 : decode jdk_43_method_2_code 8 = .ok (.baload, 1) := by decide +kernel
theorem d14_9 : decode jdk_43_method_2_code 9 = .ok (.sipush 255, 3) := by decide +kernel
theorem d14_12 : decode jdk_43_method_2_code 12 = .ok (.iand, 1) := by decide +kernel
theorem d14_13 : decode jdk_43_method_2_code 13 = .ok (.i2c, 1) := by decide +kernel
theorem d14_14 : decode jdk_43_method_2_code 14 = .ok (.ireturn, 1) := by decide +kernel
theorem pn2 : plainName "java/lang/StringLatin1" = true := by first | (simp [plainName, overriddenIn]; done) | decide +kernel
theorem ef_14_i0 (m : MethodId) (d : Addr) : entryFrame m #[(.ref d), (.int (0 : Int32))] 2 = mkF m 0 #[.val (.ref d), .val (.int (0 : Int32))] [] := by first | (simp [entryFrame, mkF, argsToLocals, Value.category]; done) | rfl
def Q14_i0 (Z : State) (d : Addr) (kd : ClassId) (gd : Nat → Int32) (fm : Value) (hfm : fm.isRef = true) (h0 : Heap) (n0 : Nat) (v : Option Value) (h : Heap) (L : List Loc) : Prop := v = some (.int (own_ch (gd 0))) ∧ Fr n0 L ∧ h = h0
set_option maxRecDepth 65536 in
set_option maxHeartbeats 40000000 in
theorem rm14_i0 (l : Launch) (Z : State) (a0 : Array Value) (hw : ∀ d ∈ tables_1, d.before a0 Z = true) (d : Addr) (kd : ClassId) (gd : Nat → Int32) (fm : Value) (hfm : fm.isRef = true) (h0 : Heap) (n0 : Nat) (Zs : n0 ≤ h0.size) (Od : Old Z n0 h0) (A_d : AF Z h0 d kd .byte 3 (fun i => .int (gd i))) (Sfm : Sta Z Z.heap "jdk/internal/util/Preconditions" "SIOOBE_FORMATTER" "Ljava/util/function/BiFunction;" fm) :
    Con l Z (⟨"java/lang/StringLatin1", "charAt", "([BI)C"⟩ : MethodName) jdk_43_method_2_code 2 (some .char) ({ frames := 2, cells := 0, slots := 0, locals := 27 } : Room) #[(.ref d), (.int (0 : Int32))] h0 (Q14_i0 Z d kd gd fm hfm h0 n0) := by
  refine Con.intro (plainFor_of_name pn2) (fun m => ef_14_i0 m d) ?_
  intro p e s m below meth c s₁ hx hby hml0 hZ hown hnm hret hlk X0 e0
  have hml : c.maxLocals = 2 := hml0
  have N0 := Fr.nil n0
  have Kp : Keep h0 h0 [] := Keep.refl h0 _
  show Go _ _ _ _ _ _ _ (s₁.setTop (mkF m 0 #[.val (.ref d), .val (.int (0 : Int32))] []))
  refine Go.of (fun _ q => XS.iloadN X0.here hx rfl (hb hby d14_0) rfl q) ?_
  show Go _ _ _ _ _ _ _ (s₁.setTop (mkF m 1 #[.val (.ref d), .val (.int (0 : Int32))] [(.int (0 : Int32))]))
  refine Go.of (fun _ q => XS.aloadN X0.here hx rfl (hb hby d14_1) rfl rfl q) ?_
  show Go _ _ _ _ _ _ _ (s₁.setTop (mkF m 2 #[.val (.ref d), .val (.int (0 : Int32))] [(.ref d), (.int (0 : Int32))]))
  refine Go.of (fun _ q => AF.length A_d X0 hx hZ e0 rfl (g := (mkF m 2 #[.val (.ref d), .val (.int (0 : Int32))] [(.ref d), (.int (0 : Int32))])) rfl rfl (hb hby d14_2) q) ?_
  show Go _ _ _ _ _ _ _ (s₁.setTop (mkF m 3 #[.val (.ref d), .val (.int (0 : Int32))] [(.int (3 : Int32)), (.int (0 : Int32))]))
  refine Go.static X0 hx hZ (y := (⟨"java/lang/String", "checkIndex", "(II)V"⟩ : MethodName)) (argsL := [(.int (0 : Int32)), (.int (3 : Int32))]) hown (hw _ (List.mem_of_getElem? (i := 66) rfl)) (hw _ (List.mem_of_getElem? (i := 67) rfl)) (hw _ (List.mem_of_getElem? (i := 7) rfl)) (hw _ (List.mem_of_getElem? (i := 68) rfl)) (by decide) 0 e0 (rm15_i0 l Z a0 hw fm hfm h0 n0 Zs Od Sfm) (by decide) (by decide) (by decide) (by decide) (g := (mkF m 3 #[.val (.ref d), .val (.int (0 : Int32))] [(.int (3 : Int32)), (.int (0 : Int32))])) rfl (by rw [hml]; rfl) (rest := []) (lenOf pd1 rfl) rfl (by show 2 * 0 + _ ≤ _; exact Nat.le_of_eq rfl) (hb hby d14_3) ?_
  intro T1 v1 L1 X1 q1
  obtain ⟨rfl, Nq1, e1⟩ := q1
  have N1 := Fr.app N0 Nq1
  show Go _ _ _ _ _ _ _ (T1.setTop (mkF m 6 #[.val (.ref d), .val (.int (0 : Int32))] []))
  refine Go.of (fun _ q => XS.aloadN X1.here hx rfl (hb hby d14_6) rfl rfl q) ?_
  show Go _ _ _ _ _ _ _ (T1.setTop (mkF m 7 #[.val (.ref d), .val (.int (0 : Int32))] [(.ref d)]))
  refine Go.of (fun _ q => XS.iloadN X1.here hx rfl (hb hby d14_7) rfl q) ?_
  show Go _ _ _ _ _ _ _ (T1.setTop (mkF m 8 #[.val (.ref d), .val (.int (0 : Int32))] [(.int (0 : Int32)), (.ref d)]))
  refine Go.of (fun _ q => AF.baload A_d X1 hx hZ e1 ⟨rfl, by decide, by decide⟩ (v := (.int (gd 0))) rfl (g := (mkF m 8 #[.val (.ref d), .val (.int (0 : Int32))] [(.int (0 : Int32)), (.ref d)])) rfl rfl (hb hby d14_8) q) ?_
  show Go _ _ _ _ _ _ _ (T1.setTop (mkF m 9 #[.val (.ref d), .val (.int (0 : Int32))] [(.int (gd 0))]))
  refine Go.of (fun _ q => XS.sipush X1.here hx rfl (hb hby d14_9) q) ?_
  show Go _ _ _ _ _ _ _ (T1.setTop (mkF m 12 #[.val (.ref d), .val (.int (0 : Int32))] [(.int (255 : Int32)), (.int (gd 0))]))
  refine Go.of (fun _ q => XS.iand X1.here hx rfl (hb hby d14_12) rfl q) ?_
  show Go _ _ _ _ _ _ _ (T1.setTop (mkF m 13 #[.val (.ref d), .val (.int (0 : Int32))] [(.int ((gd 0) &&& (255 : Int32)))]))
  refine Go.of (fun _ q => XS.i2c X1.here hx rfl (hb hby d14_13) rfl q) ?_
  show Go _ _ _ _ _ _ _ (T1.setTop (mkF m 14 #[.val (.ref d), .val (.int (0 : Int32))] [(.int (((gd 0) &&& (255 : Int32)).toUInt32.toUInt16.toUInt32.toInt32))]))
  refine Go.retN X1 hx hlk (t := .char) hret (by simp) (hb hby d14_14) (own_nc _) (by decide) (by decide) ?_
  rw [e1]
  exact ⟨rfl, N1, rfl⟩
theorem pd2 : parseMethodDescriptor "()Z" = some ⟨[], some .boolean⟩ := by decide +kernel
theorem pd3 : parseMethodDescriptor "([BI)C" = some ⟨[(.array .byte), .int], some .char⟩ := by decide +kernel
theorem d12_0 : decode jdk_42_method_56_code 0 = .ok (.aload_n 0, 1) := by decide +kernel
theorem d12_1 : decode jdk_42_method_56_code 1 = .ok (.invokevirtual 492, 3) := by decide +kernel
theorem d12_4 : decode jdk_42_method_56_code 4 = .ok (.ifCond .eq 12, 3) := by decide +kernel
theorem d12_7 : decode jdk_42_method_56_code 7 = .ok (.aload_n 0, 1) := by decide +kernel
theorem d12_8 : decode jdk_42_method_56_code 8 = .ok (.getfield 9, 3) := by decide +kernel
theorem d12_11 : decode jdk_42_method_56_code 11 = .ok (.iload_n 1, 1) := by decide +kernel
theorem d12_12 : decode jdk_42_method_56_code 12 = .ok (.invokestatic 495, 3) := by decide +kernel
theorem d12_15 : decode jdk_42_method_56_code 15 = .ok (.ireturn, 1) := by decide +kernel
theorem ef_12_i0 (m : MethodId) (a : Addr) : entryFrame m #[(.ref a), (.int (0 : Int32))] 2 = mkF m 0 #[.val (.ref a), .val (.int (0 : Int32))] [] := by first | (simp [entryFrame, mkF, argsToLocals, Value.category]; done) | rfl
def Q12_i0 (Z : State) (a : Addr) (d : Addr) (kd : ClassId) (gd : Nat → Int32) (fm : Value) (hfm : fm.isRef = true) (cs : Int32) (h0 : Heap) (n0 : Nat) (v : Option Value) (h : Heap) (L : List Loc) : Prop := v = some (.int (own_ch (gd 0))) ∧ Fr n0 L ∧ h = h0
set_option maxRecDepth 65536 in
set_option maxHeartbeats 40000000 in
theorem rm12_i0 (l : Launch) (Z : State) (a0 : Array Value) (hw : ∀ d ∈ tables_1, d.before a0 Z = true) (a : Addr) (d : Addr) (kd : ClassId) (gd : Nat → Int32) (fm : Value) (hfm : fm.isRef = true) (cs : Int32) (h0 : Heap) (n0 : Nat) (Zs : n0 ≤ h0.size) (Od : Old Z n0 h0) (E_a : Exa Z h0 a "java/lang/String") (F_a_value : Fld Z h0 a "java/lang/String" "value" "[B" (.ref d)) (F_a_coder : Fld Z h0 a "java/lang/String" "coder" "B" (.int (0 : Int32))) (A_d : AF Z h0 d kd .byte 3 (fun i => .int (gd i))) (Sfm : Sta Z Z.heap "jdk/internal/util/Preconditions" "SIOOBE_FORMATTER" "Ljava/util/function/BiFunction;" fm) (Scs : Sta Z Z.heap "java/lang/String" "COMPACT_STRINGS" "Z" (.int cs)) (hcs : ¬ cs = (0 : Int32)) :
    Con l Z (⟨"java/lang/String", "charAt", "(I)C"⟩ : MethodName) jdk_42_method_56_code 2 (some .char) ({ frames := 3, cells := 0, slots := 0, locals := 40 } : Room) #[(.ref a), (.int (0 : Int32))] h0 (Q12_i0 Z a d kd gd fm hfm cs h0 n0) := by
  refine Con.intro (plainFor_of_name pn0) (fun m => ef_12_i0 m a) ?_
  intro p e s m below meth c s₁ hx hby hml0 hZ hown hnm hret hlk X0 e0
  have hml : c.maxLocals = 2 := hml0
  have N0 := Fr.nil n0
  have Kp : Keep h0 h0 [] := Keep.refl h0 _
  show Go _ _ _ _ _ _ _ (s₁.setTop (mkF m 0 #[.val (.ref a), .val (.int (0 : Int32))] []))
  refine Go.of (fun _ q => XS.aloadN X0.here hx rfl (hb hby d12_0) rfl rfl q) ?_
  show Go _ _ _ _ _ _ _ (s₁.setTop (mkF m 1 #[.val (.ref a), .val (.int (0 : Int32))] [(.ref a)]))
  refine Go.virtual X0 hx hZ (y := (⟨"java/lang/String", "isLatin1", "()Z"⟩ : MethodName)) (z := (⟨"java/lang/String", "isLatin1", "()Z"⟩ : MethodName)) (a := a) (argsL := []) hown (hw _ (List.mem_of_getElem? (i := 57) rfl)) (hw _ (List.mem_of_getElem? (i := 58) rfl)) (notFace_of_selects (args := #[]) (mvT hZ (hw _ (List.mem_of_getElem? (i := 60) rfl)))) (hw _ (List.mem_of_getElem? (i := 60) rfl)) (hw _ (List.mem_of_getElem? (i := 59) rfl)) (hw _ (List.mem_of_getElem? (i := 7) rfl)) (hw _ (List.mem_of_getElem? (i := 61) rfl)) (by decide) 0 e0 E_a (rm13 l Z a0 hw a cs h0 n0 Zs Od F_a_coder Scs hcs) (by decide) (by decide) (by decide) (by decide) (g := (mkF m 1 #[.val (.ref a), .val (.int (0 : Int32))] [(.ref a)])) rfl (by rw [hml]; rfl) (rest := []) (lenOf pd2 rfl) rfl (by show 2 * 0 + _ ≤ _; exact Nat.le_of_eq rfl) (hb hby d12_1) ?_
  intro T1 v1 L1 X1 q1
  obtain ⟨rfl, Nq1, e1⟩ := q1
  have N1 := Fr.app N0 Nq1
  show Go _ _ _ _ _ _ _ (T1.setTop (mkF m 4 #[.val (.ref a), .val (.int (0 : Int32))] [(.int (1 : Int32))]))
  refine Go.of (fun _ q => XS.ifNo X1.here hx rfl (hb hby d12_4) rfl ((if0 _ _).trans (feq (by decide)).1) q) ?_
  show Go _ _ _ _ _ _ _ (T1.setTop (mkF m 7 #[.val (.ref a), .val (.int (0 : Int32))] []))
  refine Go.of (fun _ q => XS.aloadN X1.here hx rfl (hb hby d12_7) rfl rfl q) ?_
  show Go _ _ _ _ _ _ _ (T1.setTop (mkF m 8 #[.val (.ref a), .val (.int (0 : Int32))] [(.ref a)]))
  obtain ⟨T2, X2, e2, st2⟩ := getF X1 hx hZ hown (host := "") (Or.inl (hw _ (List.mem_of_getElem? (i := 33) rfl))) Via.refl e1 F_a_value (g := (mkF m 8 #[.val (.ref a), .val (.int (0 : Int32))] [(.ref a)])) rfl rfl (hb hby d12_8)
  refine Go.of st2 ?_
  show Go _ _ _ _ _ _ _ (T2.setTop (mkF m 11 #[.val (.ref a), .val (.int (0 : Int32))] [(.ref d)]))
  refine Go.of (fun _ q => XS.iloadN X2.here hx rfl (hb hby d12_11) rfl q) ?_
  show Go _ _ _ _ _ _ _ (T2.setTop (mkF m 12 #[.val (.ref a), .val (.int (0 : Int32))] [(.int (0 : Int32)), (.ref d)]))
  refine Go.static X2 hx hZ (y := (⟨"java/lang/StringLatin1", "charAt", "([BI)C"⟩ : MethodName)) (argsL := [(.ref d), (.int (0 : Int32))]) hown (hw _ (List.mem_of_getElem? (i := 62) rfl)) (hw _ (List.mem_of_getElem? (i := 63) rfl)) (hw _ (List.mem_of_getElem? (i := 64) rfl)) (hw _ (List.mem_of_getElem? (i := 65) rfl)) (by decide) 0 e2 (rm14_i0 l Z a0 hw d kd gd fm hfm h0 n0 Zs Od A_d Sfm) (by decide) (by decide) (by decide) (by decide) (g := (mkF m 12 #[.val (.ref a), .val (.int (0 : Int32))] [(.int (0 : Int32)), (.ref d)])) rfl (by rw [hml]; rfl) (rest := []) (lenOf pd3 rfl) rfl (by show 2 * 0 + _ ≤ _; exact Nat.le_of_eq rfl) (hb hby d12_12) ?_
  intro T3 v3 L3 X3 q3
  obtain ⟨rfl, Nq3, e3⟩ := q3
  have N3 := Fr.app N1 Nq3
  show Go _ _ _ _ _ _ _ (T3.setTop (mkF m 15 #[.val (.ref a), .val (.int (0 : Int32))] [(.int (own_ch (gd 0)))]))
  refine Go.retN X3 hx hlk (t := .char) hret (by simp) (hb hby d12_15) (own_nc _) (by decide) (by decide) ?_
  rw [e3]
  exact ⟨rfl, N3, rfl⟩
theorem ef_16_i1 (m : MethodId) (fm : Value) (hfm : fm.isRef = true) : entryFrame m #[(.int (1 : Int32)), (.int (3 : Int32)), fm] 3 = mkF m 0 #[.val (.int (1 : Int32)), .val (.int (3 : Int32)), .val fm] [] := by rcases ref_cases hfm with rfl | ⟨_, rfl⟩ <;> (first | (simp [entryFrame, mkF, argsToLocals, Value.category]; done) | rfl)
def Q16_i1 (Z : State) (fm : Value) (hfm : fm.isRef = true) (h0 : Heap) (n0 : Nat) (v : Option Value) (h : Heap) (L : List Loc) : Prop := v = some (.int (1 : Int32)) ∧ Fr n0 L ∧ h = h0
set_option maxRecDepth 65536 in
set_option maxHeartbeats 40000000 in
theorem rm16_i1 (l : Launch) (Z : State) (a0 : Array Value) (hw : ∀ d ∈ tables_1, d.before a0 Z = true) (fm : Value) (hfm : fm.isRef = true) (h0 : Heap) (n0 : Nat) (Zs : n0 ≤ h0.size)  :
    Con l Z (⟨"jdk/internal/util/Preconditions", "checkIndex", "(IILjava/util/function/BiFunction;)I"⟩ : MethodName) jdk_41_method_11_code 3 (some .int) ({ frames := 0, cells := 0, slots := 0, locals := 0 } : Room) #[(.int (1 : Int32)), (.int (3 : Int32)), fm] h0 (Q16_i1 Z fm hfm h0 n0) := by
  refine Con.intro (plainFor_of_name pn1) (fun m => ef_16_i1 m fm hfm) ?_
  intro p e s m below meth c s₁ hx hby hml0 hZ hown hnm hret hlk X0 e0
  have hml : c.maxLocals = 3 := hml0
  have N0 := Fr.nil n0
  have Kp : Keep h0 h0 [] := Keep.refl h0 _
  show Go _ _ _ _ _ _ _ (s₁.setTop (mkF m 0 #[.val (.int (1 : Int32)), .val (.int (3 : Int32)), .val fm] []))
  refine Go.of (fun _ q => XS.iloadN X0.here hx rfl (hb hby d16_0) rfl q) ?_
  show Go _ _ _ _ _ _ _ (s₁.setTop (mkF m 1 #[.val (.int (1 : Int32)), .val (.int (3 : Int32)), .val fm] [(.int (1 : Int32))]))
  refine Go.of (fun _ q => XS.ifNo X0.here hx rfl (hb hby d16_1) rfl ((if0 _ _).trans (flt (by decide)).1) q) ?_
  show Go _ _ _ _ _ _ _ (s₁.setTop (mkF m 4 #[.val (.int (1 : Int32)), .val (.int (3 : Int32)), .val fm] []))
  refine Go.of (fun _ q => XS.iloadN X0.here hx rfl (hb hby d16_4) rfl q) ?_
  show Go _ _ _ _ _ _ _ (s₁.setTop (mkF m 5 #[.val (.int (1 : Int32)), .val (.int (3 : Int32)), .val fm] [(.int (1 : Int32))]))
  refine Go.of (fun _ q => XS.iloadN X0.here hx rfl (hb hby d16_5) rfl q) ?_
  show Go _ _ _ _ _ _ _ (s₁.setTop (mkF m 6 #[.val (.int (1 : Int32)), .val (.int (3 : Int32)), .val fm] [(.int (3 : Int32)), (.int (1 : Int32))]))
  refine Go.of (fun _ q => XS.icmpYes X0.here hx rfl (pc0 := 6) (pc' := 16) rfl (hb hby d16_6) rfl (tlt (by decide)).1 (by decide) (by decide) q) ?_
  show Go _ _ _ _ _ _ _ (s₁.setTop (mkF m 16 #[.val (.int (1 : Int32)), .val (.int (3 : Int32)), .val fm] []))
  refine Go.of (fun _ q => XS.iloadN X0.here hx rfl (hb hby d16_16) rfl q) ?_
  show Go _ _ _ _ _ _ _ (s₁.setTop (mkF m 17 #[.val (.int (1 : Int32)), .val (.int (3 : Int32)), .val fm] [(.int (1 : Int32))]))
  refine Go.retI X0 hx hlk hret (hb hby d16_17) (by decide) (by decide) ?_
  rw [e0]
  exact ⟨rfl, N0, rfl⟩
theorem ef_15_i1 (m : MethodId)  : entryFrame m #[(.int (1 : Int32)), (.int (3 : Int32))] 2 = mkF m 0 #[.val (.int (1 : Int32)), .val (.int (3 : Int32))] [] := by first | (simp [entryFrame, mkF, argsToLocals, Value.category]; done) | rfl
def Q15_i1 (Z : State) (fm : Value) (hfm : fm.isRef = true) (h0 : Heap) (n0 : Nat) (v : Option Value) (h : Heap) (L : List Loc) : Prop := v = none ∧ Fr n0 L ∧ h = h0
set_option maxRecDepth 65536 in
set_option maxHeartbeats 40000000 in
theorem rm15_i1 (l : Launch) (Z : State) (a0 : Array Value) (hw : ∀ d ∈ tables_1, d.before a0 Z = true) (fm : Value) (hfm : fm.isRef = true) (h0 : Heap) (n0 : Nat) (Zs : n0 ≤ h0.size) (Od : Old Z n0 h0) (Sfm : Sta Z Z.heap "jdk/internal/util/Preconditions" "SIOOBE_FORMATTER" "Ljava/util/function/BiFunction;" fm) :
    Con l Z (⟨"java/lang/String", "checkIndex", "(II)V"⟩ : MethodName) jdk_42_method_155_code 2 none ({ frames := 1, cells := 0, slots := 0, locals := 14 } : Room) #[(.int (1 : Int32)), (.int (3 : Int32))] h0 (Q15_i1 Z fm hfm h0 n0) := by
  refine Con.intro (plainFor_of_name pn0) (fun m => ef_15_i1 m ) ?_
  intro p e s m below meth c s₁ hx hby hml0 hZ hown hnm hret hlk X0 e0
  have hml : c.maxLocals = 2 := hml0
  have N0 := Fr.nil n0
  have Kp : Keep h0 h0 [] := Keep.refl h0 _
  show Go _ _ _ _ _ _ _ (s₁.setTop (mkF m 0 #[.val (.int (1 : Int32)), .val (.int (3 : Int32))] []))
  refine Go.of (fun _ q => XS.iloadN X0.here hx rfl (hb hby d15_0) rfl q) ?_
  show Go _ _ _ _ _ _ _ (s₁.setTop (mkF m 1 #[.val (.int (1 : Int32)), .val (.int (3 : Int32))] [(.int (1 : Int32))]))
  refine Go.of (fun _ q => XS.iloadN X0.here hx rfl (hb hby d15_1) rfl q) ?_
  show Go _ _ _ _ _ _ _ (s₁.setTop (mkF m 2 #[.val (.int (1 : Int32)), .val (.int (3 : Int32))] [(.int (3 : Int32)), (.int (1 : Int32))]))
  obtain ⟨T1, X1, e1, st1⟩ := getS2 X0 hx hZ hown (host := "") (Or.inl (hw _ (List.mem_of_getElem? (i := 69) rfl))) Via.refl e0 (Sta.ext Od.2 Sfm) (g := (mkF m 2 #[.val (.int (1 : Int32)), .val (.int (3 : Int32))] [(.int (3 : Int32)), (.int (1 : Int32))])) rfl (hb hby d15_2)
  refine Go.of st1 ?_
  show Go _ _ _ _ _ _ _ (T1.setTop (mkF m 5 #[.val (.int (1 : Int32)), .val (.int (3 : Int32))] [fm, (.int (3 : Int32)), (.int (1 : Int32))]))
  refine Go.static X1 hx hZ (y := (⟨"jdk/internal/util/Preconditions", "checkIndex", "(IILjava/util/function/BiFunction;)I"⟩ : MethodName)) (argsL := [(.int (1 : Int32)), (.int (3 : Int32)), fm]) hown (hw _ (List.mem_of_getElem? (i := 71) rfl)) (hw _ (List.mem_of_getElem? (i := 72) rfl)) (hw _ (List.mem_of_getElem? (i := 70) rfl)) (hw _ (List.mem_of_getElem? (i := 73) rfl)) (by decide) 0 e1 (rm16_i1 l Z a0 hw fm hfm h0 n0 Zs ) (by decide) (by decide) (by decide) (by decide) (g := (mkF m 5 #[.val (.int (1 : Int32)), .val (.int (3 : Int32))] [fm, (.int (3 : Int32)), (.int (1 : Int32))])) rfl (by rw [hml]; rfl) (rest := []) (lenOf pd0 rfl) rfl (by show 2 * 0 + _ ≤ _; exact Nat.le_of_eq rfl) (hb hby d15_5) ?_
  intro T2 v2 L2 X2 q2
  obtain ⟨rfl, Nq2, e2⟩ := q2
  have N2 := Fr.app N0 Nq2
  show Go _ _ _ _ _ _ _ (T2.setTop (mkF m 8 #[.val (.int (1 : Int32)), .val (.int (3 : Int32))] [(.int (1 : Int32))]))
  refine Go.of (fun _ q => XS.pop X2.here hx rfl (hb hby d15_8) rfl rfl q) ?_
  show Go _ _ _ _ _ _ _ (T2.setTop (mkF m 9 #[.val (.int (1 : Int32)), .val (.int (3 : Int32))] []))
  refine Go.retV X2 hx hlk hret (hb hby d15_9) (by decide) (by decide) ?_
  rw [e2]
  exact ⟨rfl, N2, rfl⟩
theorem ef_14_i1 (m : MethodId) (d : Addr) : entryFrame m #[(.ref d), (.int (1 : Int32))] 2 = mkF m 0 #[.val (.ref d), .val (.int (1 : Int32))] [] := by first | (simp [entryFrame, mkF, argsToLocals, Value.category]; done) | rfl
def Q14_i1 (Z : State) (d : Addr) (kd : ClassId) (gd : Nat → Int32) (fm : Value) (hfm : fm.isRef = true) (h0 : Heap) (n0 : Nat) (v : Option Value) (h : Heap) (L : List Loc) : Prop := v = some (.int (own_ch (gd 1))) ∧ Fr n0 L ∧ h = h0
set_option maxRecDepth 65536 in
set_option maxHeartbeats 40000000 in
theorem rm14_i1 (l : Launch) (Z : State) (a0 : Array Value) (hw : ∀ d ∈ tables_1, d.before a0 Z = true) (d : Addr) (kd : ClassId) (gd : Nat → Int32) (fm : Value) (hfm : fm.isRef = true) (h0 : Heap) (n0 : Nat) (Zs : n0 ≤ h0.size) (Od : Old Z n0 h0) (A_d : AF Z h0 d kd .byte 3 (fun i => .int (gd i))) (Sfm : Sta Z Z.heap "jdk/internal/util/Preconditions" "SIOOBE_FORMATTER" "Ljava/util/function/BiFunction;" fm) :
    Con l Z (⟨"java/lang/StringLatin1", "charAt", "([BI)C"⟩ : MethodName) jdk_43_method_2_code 2 (some .char) ({ frames := 2, cells := 0, slots := 0, locals := 27 } : Room) #[(.ref d), (.int (1 : Int32))] h0 (Q14_i1 Z d kd gd fm hfm h0 n0) := by
  refine Con.intro (plainFor_of_name pn2) (fun m => ef_14_i1 m d) ?_
  intro p e s m below meth c s₁ hx hby hml0 hZ hown hnm hret hlk X0 e0
  have hml : c.maxLocals = 2 := hml0
  have N0 := Fr.nil n0
  have Kp : Keep h0 h0 [] := Keep.refl h0 _
  show Go _ _ _ _ _ _ _ (s₁.setTop (mkF m 0 #[.val (.ref d), .val (.int (1 : Int32))] []))
  refine Go.of (fun _ q => XS.iloadN X0.here hx rfl (hb hby d14_0) rfl q) ?_
  show Go _ _ _ _ _ _ _ (s₁.setTop (mkF m 1 #[.val (.ref d), .val (.int (1 : Int32))] [(.int (1 : Int32))]))
  refine Go.of (fun _ q => XS.aloadN X0.here hx rfl (hb hby d14_1) rfl rfl q) ?_
  show Go _ _ _ _ _ _ _ (s₁.setTop (mkF m 2 #[.val (.ref d), .val (.int (1 : Int32))] [(.ref d), (.int (1 : Int32))]))
  refine Go.of (fun _ q => AF.length A_d X0 hx hZ e0 rfl (g := (mkF m 2 #[.val (.ref d), .val (.int (1 : Int32))] [(.ref d), (.int (1 : Int32))])) rfl rfl (hb hby d14_2) q) ?_
  show Go _ _ _ _ _ _ _ (s₁.setTop (mkF m 3 #[.val (.ref d), .val (.int (1 : Int32))] [(.int (3 : Int32)), (.int (1 : Int32))]))
  refine Go.static X0 hx hZ (y := (⟨"java/lang/String", "checkIndex", "(II)V"⟩ : MethodName)) (argsL := [(.int (1 : Int32)), (.int (3 : Int32))]) hown (hw _ (List.mem_of_getElem? (i := 66) rfl)) (hw _ (List.mem_of_getElem? (i := 67) rfl)) (hw _ (List.mem_of_getElem? (i := 7) rfl)) (hw _ (List.mem_of_getElem? (i := 68) rfl)) (by decide) 0 e0 (rm15_i1 l Z a0 hw fm hfm h0 n0 Zs Od Sfm) (by decide) (by decide) (by decide) (by decide) (g := (mkF m 3 #[.val (.ref d), .val (.int (1 : Int32))] [(.int (3 : Int32)), (.int (1 : Int32))])) rfl (by rw [hml]; rfl) (rest := []) (lenOf pd1 rfl) rfl (by show 2 * 0 + _ ≤ _; exact Nat.le_of_eq rfl) (hb hby d14_3) ?_
  intro T1 v1 L1 X1 q1
  obtain ⟨rfl, Nq1, e1⟩ := q1
  have N1 := Fr.app N0 Nq1
  show Go _ _ _ _ _ _ _ (T1.setTop (mkF m 6 #[.val (.ref d), .val (.int (1 : Int32))] []))
  refine Go.of (fun _ q => XS.aloadN X1.here hx rfl (hb hby d14_6) rfl rfl q) ?_
  show Go _ _ _ _ _ _ _ (T1.setTop (mkF m 7 #[.val (.ref d), .val (.int (1 : Int32))] [(.ref d)]))
  refine Go.of (fun _ q => XS.iloadN X1.here hx rfl (hb hby d14_7) rfl q) ?_
  show Go _ _ _ _ _ _ _ (T1.setTop (mkF m 8 #[.val (.ref d), .val (.int (1 : Int32))] [(.int (1 : Int32)), (.ref d)]))
  refine Go.of (fun _ q => AF.baload A_d X1 hx hZ e1 ⟨rfl, by decide, by decide⟩ (v := (.int (gd 1))) rfl (g := (mkF m 8 #[.val (.ref d), .val (.int (1 : Int32))] [(.int (1 : Int32)), (.ref d)])) rfl rfl (hb hby d14_8) q) ?_
  show Go _ _ _ _ _ _ _ (T1.setTop (mkF m 9 #[.val (.ref d), .val (.int (1 : Int32))] [(.int (gd 1))]))
  refine Go.of (fun _ q => XS.sipush X1.here hx rfl (hb hby d14_9) q) ?_
  show Go _ _ _ _ _ _ _ (T1.setTop (mkF m 12 #[.val (.ref d), .val (.int (1 : Int32))] [(.int (255 : Int32)), (.int (gd 1))]))
  refine Go.of (fun _ q => XS.iand X1.here hx rfl (hb hby d14_12) rfl q) ?_
  show Go _ _ _ _ _ _ _ (T1.setTop (mkF m 13 #[.val (.ref d), .val (.int (1 : Int32))] [(.int ((gd 1) &&& (255 : Int32)))]))
  refine Go.of (fun _ q => XS.i2c X1.here hx rfl (hb hby d14_13) rfl q) ?_
  show Go _ _ _ _ _ _ _ (T1.setTop (mkF m 14 #[.val (.ref d), .val (.int (1 : Int32))] [(.int (((gd 1) &&& (255 : Int32)).toUInt32.toUInt16.toUInt32.toInt32))]))
  refine Go.retN X1 hx hlk (t := .char) hret (by simp) (hb hby d14_14) (own_nc _) (by decide) (by decide) ?_
  rw [e1]
  exact ⟨rfl, N1, rfl⟩
theorem ef_12_i1 (m : MethodId) (a : Addr) : entryFrame m #[(.ref a), (.int (1 : Int32))] 2 = mkF m 0 #[.val (.ref a), .val (.int (1 : Int32))] [] := by first | (simp [entryFrame, mkF, argsToLocals, Value.category]; done) | rfl
def Q12_i1 (Z : State) (a : Addr) (d : Addr) (kd : ClassId) (gd : Nat → Int32) (fm : Value) (hfm : fm.isRef = true) (cs : Int32) (h0 : Heap) (n0 : Nat) (v : Option Value) (h : Heap) (L : List Loc) : Prop := v = some (.int (own_ch (gd 1))) ∧ Fr n0 L ∧ h = h0
set_option maxRecDepth 65536 in
set_option maxHeartbeats 40000000 in
theorem rm12_i1 (l : Launch) (Z : State) (a0 : Array Value) (hw : ∀ d ∈ tables_1, d.before a0 Z = true) (a : Addr) (d : Addr) (kd : ClassId) (gd : Nat → Int32) (fm : Value) (hfm : fm.isRef = true) (cs : Int32) (h0 : Heap) (n0 : Nat) (Zs : n0 ≤ h0.size) (Od : Old Z n0 h0) (E_a : Exa Z h0 a "java/lang/String") (F_a_value : Fld Z h0 a "java/lang/String" "value" "[B" (.ref d)) (F_a_coder : Fld Z h0 a "java/lang/String" "coder" "B" (.int (0 : Int32))) (A_d : AF Z h0 d kd .byte 3 (fun i => .int (gd i))) (Sfm : Sta Z Z.heap "jdk/internal/util/Preconditions" "SIOOBE_FORMATTER" "Ljava/util/function/BiFunction;" fm) (Scs : Sta Z Z.heap "java/lang/String" "COMPACT_STRINGS" "Z" (.int cs)) (hcs : ¬ cs = (0 : Int32)) :
    Con l Z (⟨"java/lang/String", "charAt", "(I)C"⟩ : MethodName) jdk_42_method_56_code 2 (some .char) ({ frames := 3, cells := 0, slots := 0, locals := 40 } : Room) #[(.ref a), (.int (1 : Int32))] h0 (Q12_i1 Z a d kd gd fm hfm cs h0 n0) := by
  refine Con.intro (plainFor_of_name pn0) (fun m => ef_12_i1 m a) ?_
  intro p e s m below meth c s₁ hx hby hml0 hZ hown hnm hret hlk X0 e0
  have hml : c.maxLocals = 2 := hml0
  have N0 := Fr.nil n0
  have Kp : Keep h0 h0 [] := Keep.refl h0 _
  show Go _ _ _ _ _ _ _ (s₁.setTop (mkF m 0 #[.val (.ref a), .val (.int (1 : Int32))] []))
  refine Go.of (fun _ q => XS.aloadN X0.here hx rfl (hb hby d12_0) rfl rfl q) ?_
  show Go _ _ _ _ _ _ _ (s₁.setTop (mkF m 1 #[.val (.ref a), .val (.int (1 : Int32))] [(.ref a)]))
  refine Go.virtual X0 hx hZ (y := (⟨"java/lang/String", "isLatin1", "()Z"⟩ : MethodName)) (z := (⟨"java/lang/String", "isLatin1", "()Z"⟩ : MethodName)) (a := a) (argsL := []) hown (hw _ (List.mem_of_getElem? (i := 57) rfl)) (hw _ (List.mem_of_getElem? (i := 58) rfl)) (notFace_of_selects (args := #[]) (mvT hZ (hw _ (List.mem_of_getElem? (i := 60) rfl)))) (hw _ (List.mem_of_getElem? (i := 60) rfl)) (hw _ (List.mem_of_getElem? (i := 59) rfl)) (hw _ (List.mem_of_getElem? (i := 7) rfl)) (hw _ (List.mem_of_getElem? (i := 61) rfl)) (by decide) 0 e0 E_a (rm13 l Z a0 hw a cs h0 n0 Zs Od F_a_coder Scs hcs) (by decide) (by decide) (by decide) (by decide) (g := (mkF m 1 #[.val (.ref a), .val (.int (1 : Int32))] [(.ref a)])) rfl (by rw [hml]; rfl) (rest := []) (lenOf pd2 rfl) rfl (by show 2 * 0 + _ ≤ _; exact Nat.le_of_eq rfl) (hb hby d12_1) ?_
  intro T1 v1 L1 X1 q1
  obtain ⟨rfl, Nq1, e1⟩ := q1
  have N1 := Fr.app N0 Nq1
  show Go _ _ _ _ _ _ _ (T1.setTop (mkF m 4 #[.val (.ref a), .val (.int (1 : Int32))] [(.int (1 : Int32))]))
  refine Go.of (fun _ q => XS.ifNo X1.here hx rfl (hb hby d12_4) rfl ((if0 _ _).trans (feq (by decide)).1) q) ?_
  show Go _ _ _ _ _ _ _ (T1.setTop (mkF m 7 #[.val (.ref a), .val (.int (1 : Int32))] []))
  refine Go.of (fun _ q => XS.aloadN X1.here hx rfl (hb hby d12_7) rfl rfl q) ?_
  show Go _ _ _ _ _ _ _ (T1.setTop (mkF m 8 #[.val (.ref a), .val (.int (1 : Int32))] [(.ref a)]))
  obtain ⟨T2, X2, e2, st2⟩ := getF X1 hx hZ hown (host := "") (Or.inl (hw _ (List.mem_of_getElem? (i := 33) rfl))) Via.refl e1 F_a_value (g := (mkF m 8 #[.val (.ref a), .val (.int (1 : Int32))] [(.ref a)])) rfl rfl (hb hby d12_8)
  refine Go.of st2 ?_
  show Go _ _ _ _ _ _ _ (T2.setTop (mkF m 11 #[.val (.ref a), .val (.int (1 : Int32))] [(.ref d)]))
  refine Go.of (fun _ q => XS.iloadN X2.here hx rfl (hb hby d12_11) rfl q) ?_
  show Go _ _ _ _ _ _ _ (T2.setTop (mkF m 12 #[.val (.ref a), .val (.int (1 : Int32))] [(.int (1 : Int32)), (.ref d)]))
  refine Go.static X2 hx hZ (y := (⟨"java/lang/StringLatin1", "charAt", "([BI)C"⟩ : MethodName)) (argsL := [(.ref d), (.int (1 : Int32))]) hown (hw _ (List.mem_of_getElem? (i := 62) rfl)) (hw _ (List.mem_of_getElem? (i := 63) rfl)) (hw _ (List.mem_of_getElem? (i := 64) rfl)) (hw _ (List.mem_of_getElem? (i := 65) rfl)) (by decide) 0 e2 (rm14_i1 l Z a0 hw d kd gd fm hfm h0 n0 Zs Od A_d Sfm) (by decide) (by decide) (by decide) (by decide) (g := (mkF m 12 #[.val (.ref a), .val (.int (1 : Int32))] [(.int (1 : Int32)), (.ref d)])) rfl (by rw [hml]; rfl) (rest := []) (lenOf pd3 rfl) rfl (by show 2 * 0 + _ ≤ _; exact Nat.le_of_eq rfl) (hb hby d12_12) ?_
  intro T3 v3 L3 X3 q3
  obtain ⟨rfl, Nq3, e3⟩ := q3
  have N3 := Fr.app N1 Nq3
  show Go _ _ _ _ _ _ _ (T3.setTop (mkF m 15 #[.val (.ref a), .val (.int (1 : Int32))] [(.int (own_ch (gd 1)))]))
  refine Go.retN X3 hx hlk (t := .char) hret (by simp) (hb hby d12_15) (own_nc _) (by decide) (by decide) ?_
  rw [e3]
  exact ⟨rfl, N3, rfl⟩
theorem ef_16_i2 (m : MethodId) (fm : Value) (hfm : fm.isRef = true) : entryFrame m #[(.int (2 : Int32)), (.int (3 : Int32)), fm] 3 = mkF m 0 #[.val (.int (2 : Int32)), .val (.int (3 : Int32)), .val fm] [] := by rcases ref_cases hfm with rfl | ⟨_, rfl⟩ <;> (first | (simp [entryFrame, mkF, argsToLocals, Value.category]; done) | rfl)
def Q16_i2 (Z : State) (fm : Value) (hfm : fm.isRef = true) (h0 : Heap) (n0 : Nat) (v : Option Value) (h : Heap) (L : List Loc) : Prop := v = some (.int (2 : Int32)) ∧ Fr n0 L ∧ h = h0
set_option maxRecDepth 65536 in
set_option maxHeartbeats 40000000 in
theorem rm16_i2 (l : Launch) (Z : State) (a0 : Array Value) (hw : ∀ d ∈ tables_1, d.before a0 Z = true) (fm : Value) (hfm : fm.isRef = true) (h0 : Heap) (n0 : Nat) (Zs : n0 ≤ h0.size)  :
    Con l Z (⟨"jdk/internal/util/Preconditions", "checkIndex", "(IILjava/util/function/BiFunction;)I"⟩ : MethodName) jdk_41_method_11_code 3 (some .int) ({ frames := 0, cells := 0, slots := 0, locals := 0 } : Room) #[(.int (2 : Int32)), (.int (3 : Int32)), fm] h0 (Q16_i2 Z fm hfm h0 n0) := by
  refine Con.intro (plainFor_of_name pn1) (fun m => ef_16_i2 m fm hfm) ?_
  intro p e s m below meth c s₁ hx hby hml0 hZ hown hnm hret hlk X0 e0
  have hml : c.maxLocals = 3 := hml0
  have N0 := Fr.nil n0
  have Kp : Keep h0 h0 [] := Keep.refl h0 _
  show Go _ _ _ _ _ _ _ (s₁.setTop (mkF m 0 #[.val (.int (2 : Int32)), .val (.int (3 : Int32)), .val fm] []))
  refine Go.of (fun _ q => XS.iloadN X0.here hx rfl (hb hby d16_0) rfl q) ?_
  show Go _ _ _ _ _ _ _ (s₁.setTop (mkF m 1 #[.val (.int (2 : Int32)), .val (.int (3 : Int32)), .val fm] [(.int (2 : Int32))]))
  refine Go.of (fun _ q => XS.ifNo X0.here hx rfl (hb hby d16_1) rfl ((if0 _ _).trans (flt (by decide)).1) q) ?_
  show Go _ _ _ _ _ _ _ (s₁.setTop (mkF m 4 #[.val (.int (2 : Int32)), .val (.int (3 : Int32)), .val fm] []))
  refine Go.of (fun _ q => XS.iloadN X0.here hx rfl (hb hby d16_4) rfl q) ?_
  show Go _ _ _ _ _ _ _ (s₁.setTop (mkF m 5 #[.val (.int (2 : Int32)), .val (.int (3 : Int32)), .val fm] [(.int (2 : Int32))]))
  refine Go.of (fun _ q => XS.iloadN X0.here hx rfl (hb hby d16_5) rfl q) ?_
  show Go _ _ _ _ _ _ _ (s₁.setTop (mkF m 6 #[.val (.int (2 : Int32)), .val (.int (3 : Int32)), .val fm] [(.int (3 : Int32)), (.int (2 : Int32))]))
  refine Go.of (fun _ q => XS.icmpYes X0.here hx rfl (pc0 := 6) (pc' := 16) rfl (hb hby d16_6) rfl (tlt (by decide)).1 (by decide) (by decide) q) ?_
  show Go _ _ _ _ _ _ _ (s₁.setTop (mkF m 16 #[.val (.int (2 : Int32)), .val (.int (3 : Int32)), .val fm] []))
  refine Go.of (fun _ q => XS.iloadN X0.here hx rfl (hb hby d16_16) rfl q) ?_
  show Go _ _ _ _ _ _ _ (s₁.setTop (mkF m 17 #[.val (.int (2 : Int32)), .val (.int (3 : Int32)), .val fm] [(.int (2 : Int32))]))
  refine Go.retI X0 hx hlk hret (hb hby d16_17) (by decide) (by decide) ?_
  rw [e0]
  exact ⟨rfl, N0, rfl⟩
theorem ef_15_i2 (m : MethodId)  : entryFrame m #[(.int (2 : Int32)), (.int (3 : Int32))] 2 = mkF m 0 #[.val (.int (2 : Int32)), .val (.int (3 : Int32))] [] := by first | (simp [entryFrame, mkF, argsToLocals, Value.category]; done) | rfl
def Q15_i2 (Z : State) (fm : Value) (hfm : fm.isRef = true) (h0 : Heap) (n0 : Nat) (v : Option Value) (h : Heap) (L : List Loc) : Prop := v = none ∧ Fr n0 L ∧ h = h0
set_option maxRecDepth 65536 in
set_option maxHeartbeats 40000000 in
theorem rm15_i2 (l : Launch) (Z : State) (a0 : Array Value) (hw : ∀ d ∈ tables_1, d.before a0 Z = true) (fm : Value) (hfm : fm.isRef = true) (h0 : Heap) (n0 : Nat) (Zs : n0 ≤ h0.size) (Od : Old Z n0 h0) (Sfm : Sta Z Z.heap "jdk/internal/util/Preconditions" "SIOOBE_FORMATTER" "Ljava/util/function/BiFunction;" fm) :
    Con l Z (⟨"java/lang/String", "checkIndex", "(II)V"⟩ : MethodName) jdk_42_method_155_code 2 none ({ frames := 1, cells := 0, slots := 0, locals := 14 } : Room) #[(.int (2 : Int32)), (.int (3 : Int32))] h0 (Q15_i2 Z fm hfm h0 n0) := by
  refine Con.intro (plainFor_of_name pn0) (fun m => ef_15_i2 m ) ?_
  intro p e s m below meth c s₁ hx hby hml0 hZ hown hnm hret hlk X0 e0
  have hml : c.maxLocals = 2 := hml0
  have N0 := Fr.nil n0
  have Kp : Keep h0 h0 [] := Keep.refl h0 _
  show Go _ _ _ _ _ _ _ (s₁.setTop (mkF m 0 #[.val (.int (2 : Int32)), .val (.int (3 : Int32))] []))
  refine Go.of (fun _ q => XS.iloadN X0.here hx rfl (hb hby d15_0) rfl q) ?_
  show Go _ _ _ _ _ _ _ (s₁.setTop (mkF m 1 #[.val (.int (2 : Int32)), .val (.int (3 : Int32))] [(.int (2 : Int32))]))
  refine Go.of (fun _ q => XS.iloadN X0.here hx rfl (hb hby d15_1) rfl q) ?_
  show Go _ _ _ _ _ _ _ (s₁.setTop (mkF m 2 #[.val (.int (2 : Int32)), .val (.int (3 : Int32))] [(.int (3 : Int32)), (.int (2 : Int32))]))
  obtain ⟨T1, X1, e1, st1⟩ := getS2 X0 hx hZ hown (host := "") (Or.inl (hw _ (List.mem_of_getElem? (i := 69) rfl))) Via.refl e0 (Sta.ext Od.2 Sfm) (g := (mkF m 2 #[.val (.int (2 : Int32)), .val (.int (3 : Int32))] [(.int (3 : Int32)), (.int (2 : Int32))])) rfl (hb hby d15_2)
  refine Go.of st1 ?_
  show Go _ _ _ _ _ _ _ (T1.setTop (mkF m 5 #[.val (.int (2 : Int32)), .val (.int (3 : Int32))] [fm, (.int (3 : Int32)), (.int (2 : Int32))]))
  refine Go.static X1 hx hZ (y := (⟨"jdk/internal/util/Preconditions", "checkIndex", "(IILjava/util/function/BiFunction;)I"⟩ : MethodName)) (argsL := [(.int (2 : Int32)), (.int (3 : Int32)), fm]) hown (hw _ (List.mem_of_getElem? (i := 71) rfl)) (hw _ (List.mem_of_getElem? (i := 72) rfl)) (hw _ (List.mem_of_getElem? (i := 70) rfl)) (hw _ (List.mem_of_getElem? (i := 73) rfl)) (by decide) 0 e1 (rm16_i2 l Z a0 hw fm hfm h0 n0 Zs ) (by decide) (by decide) (by decide) (by decide) (g := (mkF m 5 #[.val (.int (2 : Int32)), .val (.int (3 : Int32))] [fm, (.int (3 : Int32)), (.int (2 : Int32))])) rfl (by rw [hml]; rfl) (rest := []) (lenOf pd0 rfl) rfl (by show 2 * 0 + _ ≤ _; exact Nat.le_of_eq rfl) (hb hby d15_5) ?_
  intro T2 v2 L2 X2 q2
  obtain ⟨rfl, Nq2, e2⟩ := q2
  have N2 := Fr.app N0 Nq2
  show Go _ _ _ _ _ _ _ (T2.setTop (mkF m 8 #[.val (.int (2 : Int32)), .val (.int (3 : Int32))] [(.int (2 : Int32))]))
  refine Go.of (fun _ q => XS.pop X2.here hx rfl (hb hby d15_8) rfl rfl q) ?_
  show Go _ _ _ _ _ _ _ (T2.setTop (mkF m 9 #[.val (.int (2 : Int32)), .val (.int (3 : Int32))] []))
  refine Go.retV X2 hx hlk hret (hb hby d15_9) (by decide) (by decide) ?_
  rw [e2]
  exact ⟨rfl, N2, rfl⟩
theorem ef_14_i2 (m : MethodId) (d : Addr) : entryFrame m #[(.ref d), (.int (2 : Int32))] 2 = mkF m 0 #[.val (.ref d), .val (.int (2 : Int32))] [] := by first | (simp [entryFrame, mkF, argsToLocals, Value.category]; done) | rfl
def Q14_i2 (Z : State) (d : Addr) (kd : ClassId) (gd : Nat → Int32) (fm : Value) (hfm : fm.isRef = true) (h0 : Heap) (n0 : Nat) (v : Option Value) (h : Heap) (L : List Loc) : Prop := v = some (.int (own_ch (gd 2))) ∧ Fr n0 L ∧ h = h0
set_option maxRecDepth 65536 in
set_option maxHeartbeats 40000000 in
theorem rm14_i2 (l : Launch) (Z : State) (a0 : Array Value) (hw : ∀ d ∈ tables_1, d.before a0 Z = true) (d : Addr) (kd : ClassId) (gd : Nat → Int32) (fm : Value) (hfm : fm.isRef = true) (h0 : Heap) (n0 : Nat) (Zs : n0 ≤ h0.size) (Od : Old Z n0 h0) (A_d : AF Z h0 d kd .byte 3 (fun i => .int (gd i))) (Sfm : Sta Z Z.heap "jdk/internal/util/Preconditions" "SIOOBE_FORMATTER" "Ljava/util/function/BiFunction;" fm) :
    Con l Z (⟨"java/lang/StringLatin1", "charAt", "([BI)C"⟩ : MethodName) jdk_43_method_2_code 2 (some .char) ({ frames := 2, cells := 0, slots := 0, locals := 27 } : Room) #[(.ref d), (.int (2 : Int32))] h0 (Q14_i2 Z d kd gd fm hfm h0 n0) := by
  refine Con.intro (plainFor_of_name pn2) (fun m => ef_14_i2 m d) ?_
  intro p e s m below meth c s₁ hx hby hml0 hZ hown hnm hret hlk X0 e0
  have hml : c.maxLocals = 2 := hml0
  have N0 := Fr.nil n0
  have Kp : Keep h0 h0 [] := Keep.refl h0 _
  show Go _ _ _ _ _ _ _ (s₁.setTop (mkF m 0 #[.val (.ref d), .val (.int (2 : Int32))] []))
  refine Go.of (fun _ q => XS.iloadN X0.here hx rfl (hb hby d14_0) rfl q) ?_
  show Go _ _ _ _ _ _ _ (s₁.setTop (mkF m 1 #[.val (.ref d), .val (.int (2 : Int32))] [(.int (2 : Int32))]))
  refine Go.of (fun _ q => XS.aloadN X0.here hx rfl (hb hby d14_1) rfl rfl q) ?_
  show Go _ _ _ _ _ _ _ (s₁.setTop (mkF m 2 #[.val (.ref d), .val (.int (2 : Int32))] [(.ref d), (.int (2 : Int32))]))
  refine Go.of (fun _ q => AF.length A_d X0 hx hZ e0 rfl (g := (mkF m 2 #[.val (.ref d), .val (.int (2 : Int32))] [(.ref d), (.int (2 : Int32))])) rfl rfl (hb hby d14_2) q) ?_
  show Go _ _ _ _ _ _ _ (s₁.setTop (mkF m 3 #[.val (.ref d), .val (.int (2 : Int32))] [(.int (3 : Int32)), (.int (2 : Int32))]))
  refine Go.static X0 hx hZ (y := (⟨"java/lang/String", "checkIndex", "(II)V"⟩ : MethodName)) (argsL := [(.int (2 : Int32)), (.int (3 : Int32))]) hown (hw _ (List.mem_of_getElem? (i := 66) rfl)) (hw _ (List.mem_of_getElem? (i := 67) rfl)) (hw _ (List.mem_of_getElem? (i := 7) rfl)) (hw _ (List.mem_of_getElem? (i := 68) rfl)) (by decide) 0 e0 (rm15_i2 l Z a0 hw fm hfm h0 n0 Zs Od Sfm) (by decide) (by decide) (by decide) (by decide) (g := (mkF m 3 #[.val (.ref d), .val (.int (2 : Int32))] [(.int (3 : Int32)), (.int (2 : Int32))])) rfl (by rw [hml]; rfl) (rest := []) (lenOf pd1 rfl) rfl (by show 2 * 0 + _ ≤ _; exact Nat.le_of_eq rfl) (hb hby d14_3) ?_
  intro T1 v1 L1 X1 q1
  obtain ⟨rfl, Nq1, e1⟩ := q1
  have N1 := Fr.app N0 Nq1
  show Go _ _ _ _ _ _ _ (T1.setTop (mkF m 6 #[.val (.ref d), .val (.int (2 : Int32))] []))
  refine Go.of (fun _ q => XS.aloadN X1.here hx rfl (hb hby d14_6) rfl rfl q) ?_
  show Go _ _ _ _ _ _ _ (T1.setTop (mkF m 7 #[.val (.ref d), .val (.int (2 : Int32))] [(.ref d)]))
  refine Go.of (fun _ q => XS.iloadN X1.here hx rfl (hb hby d14_7) rfl q) ?_
  show Go _ _ _ _ _ _ _ (T1.setTop (mkF m 8 #[.val (.ref d), .val (.int (2 : Int32))] [(.int (2 : Int32)), (.ref d)]))
  refine Go.of (fun _ q => AF.baload A_d X1 hx hZ e1 ⟨rfl, by decide, by decide⟩ (v := (.int (gd 2))) rfl (g := (mkF m 8 #[.val (.ref d), .val (.int (2 : Int32))] [(.int (2 : Int32)), (.ref d)])) rfl rfl (hb hby d14_8) q) ?_
  show Go _ _ _ _ _ _ _ (T1.setTop (mkF m 9 #[.val (.ref d), .val (.int (2 : Int32))] [(.int (gd 2))]))
  refine Go.of (fun _ q => XS.sipush X1.here hx rfl (hb hby d14_9) q) ?_
  show Go _ _ _ _ _ _ _ (T1.setTop (mkF m 12 #[.val (.ref d), .val (.int (2 : Int32))] [(.int (255 : Int32)), (.int (gd 2))]))
  refine Go.of (fun _ q => XS.iand X1.here hx rfl (hb hby d14_12) rfl q) ?_
  show Go _ _ _ _ _ _ _ (T1.setTop (mkF m 13 #[.val (.ref d), .val (.int (2 : Int32))] [(.int ((gd 2) &&& (255 : Int32)))]))
  refine Go.of (fun _ q => XS.i2c X1.here hx rfl (hb hby d14_13) rfl q) ?_
  show Go _ _ _ _ _ _ _ (T1.setTop (mkF m 14 #[.val (.ref d), .val (.int (2 : Int32))] [(.int (((gd 2) &&& (255 : Int32)).toUInt32.toUInt16.toUInt32.toInt32))]))
  refine Go.retN X1 hx hlk (t := .char) hret (by simp) (hb hby d14_14) (own_nc _) (by decide) (by decide) ?_
  rw [e1]
  exact ⟨rfl, N1, rfl⟩
theorem ef_12_i2 (m : MethodId) (a : Addr) : entryFrame m #[(.ref a), (.int (2 : Int32))] 2 = mkF m 0 #[.val (.ref a), .val (.int (2 : Int32))] [] := by first | (simp [entryFrame, mkF, argsToLocals, Value.category]; done) | rfl
def Q12_i2 (Z : State) (a : Addr) (d : Addr) (kd : ClassId) (gd : Nat → Int32) (fm : Value) (hfm : fm.isRef = true) (cs : Int32) (h0 : Heap) (n0 : Nat) (v : Option Value) (h : Heap) (L : List Loc) : Prop := v = some (.int (own_ch (gd 2))) ∧ Fr n0 L ∧ h = h0
set_option maxRecDepth 65536 in
set_option maxHeartbeats 40000000 in
theorem rm12_i2 (l : Launch) (Z : State) (a0 : Array Value) (hw : ∀ d ∈ tables_1, d.before a0 Z = true) (a : Addr) (d : Addr) (kd : ClassId) (gd : Nat → Int32) (fm : Value) (hfm : fm.isRef = true) (cs : Int32) (h0 : Heap) (n0 : Nat) (Zs : n0 ≤ h0.size) (Od : Old Z n0 h0) (E_a : Exa Z h0 a "java/lang/String") (F_a_value : Fld Z h0 a "java/lang/String" "value" "[B" (.ref d)) (F_a_coder : Fld Z h0 a "java/lang/String" "coder" "B" (.int (0 : Int32))) (A_d : AF Z h0 d kd .byte 3 (fun i => .int (gd i))) (Sfm : Sta Z Z.heap "jdk/internal/util/Preconditions" "SIOOBE_FORMATTER" "Ljava/util/function/BiFunction;" fm) (Scs : Sta Z Z.heap "java/lang/String" "COMPACT_STRINGS" "Z" (.int cs)) (hcs : ¬ cs = (0 : Int32)) :
    Con l Z (⟨"java/lang/String", "charAt", "(I)C"⟩ : MethodName) jdk_42_method_56_code 2 (some .char) ({ frames := 3, cells := 0, slots := 0, locals := 40 } : Room) #[(.ref a), (.int (2 : Int32))] h0 (Q12_i2 Z a d kd gd fm hfm cs h0 n0) := by
  refine Con.intro (plainFor_of_name pn0) (fun m => ef_12_i2 m a) ?_
  intro p e s m below meth c s₁ hx hby hml0 hZ hown hnm hret hlk X0 e0
  have hml : c.maxLocals = 2 := hml0
  have N0 := Fr.nil n0
  have Kp : Keep h0 h0 [] := Keep.refl h0 _
  show Go _ _ _ _ _ _ _ (s₁.setTop (mkF m 0 #[.val (.ref a), .val (.int (2 : Int32))] []))
  refine Go.of (fun _ q => XS.aloadN X0.here hx rfl (hb hby d12_0) rfl rfl q) ?_
  show Go _ _ _ _ _ _ _ (s₁.setTop (mkF m 1 #[.val (.ref a), .val (.int (2 : Int32))] [(.ref a)]))
  refine Go.virtual X0 hx hZ (y := (⟨"java/lang/String", "isLatin1", "()Z"⟩ : MethodName)) (z := (⟨"java/lang/String", "isLatin1", "()Z"⟩ : MethodName)) (a := a) (argsL := []) hown (hw _ (List.mem_of_getElem? (i := 57) rfl)) (hw _ (List.mem_of_getElem? (i := 58) rfl)) (notFace_of_selects (args := #[]) (mvT hZ (hw _ (List.mem_of_getElem? (i := 60) rfl)))) (hw _ (List.mem_of_getElem? (i := 60) rfl)) (hw _ (List.mem_of_getElem? (i := 59) rfl)) (hw _ (List.mem_of_getElem? (i := 7) rfl)) (hw _ (List.mem_of_getElem? (i := 61) rfl)) (by decide) 0 e0 E_a (rm13 l Z a0 hw a cs h0 n0 Zs Od F_a_coder Scs hcs) (by decide) (by decide) (by decide) (by decide) (g := (mkF m 1 #[.val (.ref a), .val (.int (2 : Int32))] [(.ref a)])) rfl (by rw [hml]; rfl) (rest := []) (lenOf pd2 rfl) rfl (by show 2 * 0 + _ ≤ _; exact Nat.le_of_eq rfl) (hb hby d12_1) ?_
  intro T1 v1 L1 X1 q1
  obtain ⟨rfl, Nq1, e1⟩ := q1
  have N1 := Fr.app N0 Nq1
  show Go _ _ _ _ _ _ _ (T1.setTop (mkF m 4 #[.val (.ref a), .val (.int (2 : Int32))] [(.int (1 : Int32))]))
  refine Go.of (fun _ q => XS.ifNo X1.here hx rfl (hb hby d12_4) rfl ((if0 _ _).trans (feq (by decide)).1) q) ?_
  show Go _ _ _ _ _ _ _ (T1.setTop (mkF m 7 #[.val (.ref a), .val (.int (2 : Int32))] []))
  refine Go.of (fun _ q => XS.aloadN X1.here hx rfl (hb hby d12_7) rfl rfl q) ?_
  show Go _ _ _ _ _ _ _ (T1.setTop (mkF m 8 #[.val (.ref a), .val (.int (2 : Int32))] [(.ref a)]))
  obtain ⟨T2, X2, e2, st2⟩ := getF X1 hx hZ hown (host := "") (Or.inl (hw _ (List.mem_of_getElem? (i := 33) rfl))) Via.refl e1 F_a_value (g := (mkF m 8 #[.val (.ref a), .val (.int (2 : Int32))] [(.ref a)])) rfl rfl (hb hby d12_8)
  refine Go.of st2 ?_
  show Go _ _ _ _ _ _ _ (T2.setTop (mkF m 11 #[.val (.ref a), .val (.int (2 : Int32))] [(.ref d)]))
  refine Go.of (fun _ q => XS.iloadN X2.here hx rfl (hb hby d12_11) rfl q) ?_
  show Go _ _ _ _ _ _ _ (T2.setTop (mkF m 12 #[.val (.ref a), .val (.int (2 : Int32))] [(.int (2 : Int32)), (.ref d)]))
  refine Go.static X2 hx hZ (y := (⟨"java/lang/StringLatin1", "charAt", "([BI)C"⟩ : MethodName)) (argsL := [(.ref d), (.int (2 : Int32))]) hown (hw _ (List.mem_of_getElem? (i := 62) rfl)) (hw _ (List.mem_of_getElem? (i := 63) rfl)) (hw _ (List.mem_of_getElem? (i := 64) rfl)) (hw _ (List.mem_of_getElem? (i := 65) rfl)) (by decide) 0 e2 (rm14_i2 l Z a0 hw d kd gd fm hfm h0 n0 Zs Od A_d Sfm) (by decide) (by decide) (by decide) (by decide) (g := (mkF m 12 #[.val (.ref a), .val (.int (2 : Int32))] [(.int (2 : Int32)), (.ref d)])) rfl (by rw [hml]; rfl) (rest := []) (lenOf pd3 rfl) rfl (by show 2 * 0 + _ ≤ _; exact Nat.le_of_eq rfl) (hb hby d12_12) ?_
  intro T3 v3 L3 X3 q3
  obtain ⟨rfl, Nq3, e3⟩ := q3
  have N3 := Fr.app N1 Nq3
  show Go _ _ _ _ _ _ _ (T3.setTop (mkF m 15 #[.val (.ref a), .val (.int (2 : Int32))] [(.int (own_ch (gd 2)))]))
  refine Go.retN X3 hx hlk (t := .char) hret (by simp) (hb hby d12_15) (own_nc _) (by decide) (by decide) ?_
  rw [e3]
  exact ⟨rfl, N3, rfl⟩
theorem d11_0 : decode jdk_42_method_152_code 0 = .ok (.getstatic 38, 3) := by decide +kernel
theorem d11_3 : decode jdk_42_method_152_code 3 = .ok (.ifCond .eq 10, 3) := by decide +kernel
theorem d11_6 : decode jdk_42_method_152_code 6 = .ok (.aload_n 0, 1) := by decide +kernel
theorem d11_7 : decode jdk_42_method_152_code 7 = .ok (.getfield 15, 3) := by decide +kernel
theorem d11_10 : decode jdk_42_method_152_code 10 = .ok (.goto 4, 3) := by decide +kernel
theorem d11_14 : decode jdk_42_method_152_code 14 = .ok (.ireturn, 1) := by decide +kernel
theorem ef_11 (m : MethodId) (a : Addr) : entryFrame m #[(.ref a)] 1 = mkF m 0 #[.val (.ref a)] [] := by first | (simp [entryFrame, mkF, argsToLocals, Value.category]; done) | rfl
def Q11 (Z : State) (a : Addr) (cs : Int32) (h0 : Heap) (n0 : Nat) (v : Option Value) (h : Heap) (L : List Loc) : Prop := v = some (.int (0 : Int32)) ∧ Fr n0 L ∧ h = h0
set_option maxRecDepth 65536 in
set_option maxHeartbeats 40000000 in
theorem rm11 (l : Launch) (Z : State) (a0 : Array Value) (hw : ∀ d ∈ tables_1, d.before a0 Z = true) (a : Addr) (cs : Int32) (h0 : Heap) (n0 : Nat) (Zs : n0 ≤ h0.size) (Od : Old Z n0 h0) (F_a_coder : Fld Z h0 a "java/lang/String" "coder" "B" (.int (0 : Int32))) (Scs : Sta Z Z.heap "java/lang/String" "COMPACT_STRINGS" "Z" (.int cs)) (hcs : ¬ cs = (0 : Int32)) :
    Con l Z (⟨"java/lang/String", "coder", "()B"⟩ : MethodName) jdk_42_method_152_code 1 (some .byte) ({ frames := 0, cells := 0, slots := 0, locals := 0 } : Room) #[(.ref a)] h0 (Q11 Z a cs h0 n0) := by
  refine Con.intro (plainFor_of_name pn0) (fun m => ef_11 m a) ?_
  intro p e s m below meth c s₁ hx hby hml0 hZ hown hnm hret hlk X0 e0
  have hml : c.maxLocals = 1 := hml0
  have N0 := Fr.nil n0
  have Kp : Keep h0 h0 [] := Keep.refl h0 _
  show Go _ _ _ _ _ _ _ (s₁.setTop (mkF m 0 #[.val (.ref a)] []))
  obtain ⟨T1, X1, e1, st1⟩ := getS2 X0 hx hZ hown (host := "") (Or.inl (hw _ (List.mem_of_getElem? (i := 19) rfl))) Via.refl e0 (Sta.ext Od.2 Scs) (g := (mkF m 0 #[.val (.ref a)] [])) rfl (hb hby d11_0)
  refine Go.of st1 ?_
  show Go _ _ _ _ _ _ _ (T1.setTop (mkF m 3 #[.val (.ref a)] [(.int cs)]))
  refine Go.of (fun _ q => XS.ifNo X1.here hx rfl (hb hby d11_3) rfl ((if0 _ _).trans (feq hcs).1) q) ?_
  show Go _ _ _ _ _ _ _ (T1.setTop (mkF m 6 #[.val (.ref a)] []))
  refine Go.of (fun _ q => XS.aloadN X1.here hx rfl (hb hby d11_6) rfl rfl q) ?_
  show Go _ _ _ _ _ _ _ (T1.setTop (mkF m 7 #[.val (.ref a)] [(.ref a)]))
  obtain ⟨T2, X2, e2, st2⟩ := getF X1 hx hZ hown (host := "") (Or.inl (hw _ (List.mem_of_getElem? (i := 31) rfl))) Via.refl e1 F_a_coder (g := (mkF m 7 #[.val (.ref a)] [(.ref a)])) rfl rfl (hb hby d11_7)
  refine Go.of st2 ?_
  show Go _ _ _ _ _ _ _ (T2.setTop (mkF m 10 #[.val (.ref a)] [(.int (0 : Int32))]))
  refine Go.of (fun _ q => XS.goto X2.here hx rfl (pc0 := 10) (pc' := 14) rfl (hb hby d11_10) (by decide) (by decide) q) ?_
  show Go _ _ _ _ _ _ _ (T2.setTop (mkF m 14 #[.val (.ref a)] [(.int (0 : Int32))]))
  refine Go.retN X2 hx hlk (t := .byte) hret (by simp) (hb hby d11_14) rfl (by decide) (by decide) ?_
  rw [e2]
  exact ⟨rfl, N0, rfl⟩
theorem pd4 : parseMethodDescriptor "()B" = some ⟨[], some .byte⟩ := by decide +kernel
theorem d10_0 : decode jdk_42_method_54_code 0 = .ok (.aload_n 0, 1) := by decide +kernel
theorem d10_1 : decode jdk_42_method_54_code 1 = .ok (.getfield 9, 3) := by decide +kernel
theorem d10_4 : decode jdk_42_method_54_code 4 = .ok (.arraylength, 1) := by decide +kernel
theorem d10_5 : decode jdk_42_method_54_code 5 = .ok (.aload_n 0, 1) := by decide +kernel
theorem d10_6 : decode jdk_42_method_54_code 6 = .ok (.invokevirtual 335, 3) := by decide +kernel
theorem d10_9 : decode jdk_42_method_54_code 9 = .ok (.ishr, 1) := by decide +kernel
theorem d10_10 : decode jdk_42_method_54_code 10 = .ok (.ireturn, 1) := by decide +kernel
theorem ef_10_0 (m : MethodId) (a : Addr) : entryFrame m #[(.ref a)] 1 = mkF m 0 #[.val (.ref a)] [] := by first | (simp [entryFrame, mkF, argsToLocals, Value.category]; done) | rfl
def Q10_0 (Z : State) (a : Addr) (d : Addr) (kd : ClassId) (gd : Nat → Int32) (cs : Int32) (h0 : Heap) (n0 : Nat) (v : Option Value) (h : Heap) (L : List Loc) : Prop := v = some (.int (0 : Int32)) ∧ Fr n0 L ∧ h = h0
set_option maxRecDepth 65536 in
set_option maxHeartbeats 40000000 in
theorem rm10_0 (l : Launch) (Z : State) (a0 : Array Value) (hw : ∀ d ∈ tables_1, d.before a0 Z = true) (a : Addr) (d : Addr) (kd : ClassId) (gd : Nat → Int32) (cs : Int32) (h0 : Heap) (n0 : Nat) (Zs : n0 ≤ h0.size) (Od : Old Z n0 h0) (E_a : Exa Z h0 a "java/lang/String") (F_a_value : Fld Z h0 a "java/lang/String" "value" "[B" (.ref d)) (F_a_coder : Fld Z h0 a "java/lang/String" "coder" "B" (.int (0 : Int32))) (A_d : AF Z h0 d kd .byte 0 (fun i => .int (gd i))) (Scs : Sta Z Z.heap "java/lang/String" "COMPACT_STRINGS" "Z" (.int cs)) (hcs : ¬ cs = (0 : Int32)) :
    Con l Z (⟨"java/lang/String", "length", "()I"⟩ : MethodName) jdk_42_method_54_code 1 (some .int) ({ frames := 1, cells := 0, slots := 0, locals := 13 } : Room) #[(.ref a)] h0 (Q10_0 Z a d kd gd cs h0 n0) := by
  refine Con.intro (plainFor_of_name pn0) (fun m => ef_10_0 m a) ?_
  intro p e s m below meth c s₁ hx hby hml0 hZ hown hnm hret hlk X0 e0
  have hml : c.maxLocals = 1 := hml0
  have N0 := Fr.nil n0
  have Kp : Keep h0 h0 [] := Keep.refl h0 _
  show Go _ _ _ _ _ _ _ (s₁.setTop (mkF m 0 #[.val (.ref a)] []))
  refine Go.of (fun _ q => XS.aloadN X0.here hx rfl (hb hby d10_0) rfl rfl q) ?_
  show Go _ _ _ _ _ _ _ (s₁.setTop (mkF m 1 #[.val (.ref a)] [(.ref a)]))
  obtain ⟨T1, X1, e1, st1⟩ := getF X0 hx hZ hown (host := "") (Or.inl (hw _ (List.mem_of_getElem? (i := 33) rfl))) Via.refl e0 F_a_value (g := (mkF m 1 #[.val (.ref a)] [(.ref a)])) rfl rfl (hb hby d10_1)
  refine Go.of st1 ?_
  show Go _ _ _ _ _ _ _ (T1.setTop (mkF m 4 #[.val (.ref a)] [(.ref d)]))
  refine Go.of (fun _ q => AF.length A_d X1 hx hZ e1 rfl (g := (mkF m 4 #[.val (.ref a)] [(.ref d)])) rfl rfl (hb hby d10_4) q) ?_
  show Go _ _ _ _ _ _ _ (T1.setTop (mkF m 5 #[.val (.ref a)] [(.int (0 : Int32))]))
  refine Go.of (fun _ q => XS.aloadN X1.here hx rfl (hb hby d10_5) rfl rfl q) ?_
  show Go _ _ _ _ _ _ _ (T1.setTop (mkF m 6 #[.val (.ref a)] [(.ref a), (.int (0 : Int32))]))
  refine Go.virtual X1 hx hZ (y := (⟨"java/lang/String", "coder", "()B"⟩ : MethodName)) (z := (⟨"java/lang/String", "coder", "()B"⟩ : MethodName)) (a := a) (argsL := []) hown (hw _ (List.mem_of_getElem? (i := 47) rfl)) (hw _ (List.mem_of_getElem? (i := 48) rfl)) (notFace_of_selects (args := #[]) (mvT hZ (hw _ (List.mem_of_getElem? (i := 50) rfl)))) (hw _ (List.mem_of_getElem? (i := 50) rfl)) (hw _ (List.mem_of_getElem? (i := 49) rfl)) (hw _ (List.mem_of_getElem? (i := 7) rfl)) (hw _ (List.mem_of_getElem? (i := 51) rfl)) (by decide) 1 e1 E_a (rm11 l Z a0 hw a cs h0 n0 Zs Od F_a_coder Scs hcs) (by decide) (by decide) (by decide) (by decide) (g := (mkF m 6 #[.val (.ref a)] [(.ref a), (.int (0 : Int32))])) rfl (by rw [hml]; rfl) (rest := [(.int (0 : Int32))]) (lenOf pd4 rfl) rfl (by show 2 * 0 + _ ≤ _; exact Nat.le_of_eq rfl) (hb hby d10_6) ?_
  intro T2 v2 L2 X2 q2
  obtain ⟨rfl, Nq2, e2⟩ := q2
  have N2 := Fr.app N0 Nq2
  show Go _ _ _ _ _ _ _ (T2.setTop (mkF m 9 #[.val (.ref a)] [(.int (0 : Int32)), (.int (0 : Int32))]))
  refine Go.of (fun _ q => XS.ishr X2.here hx rfl (hb hby d10_9) rfl q) ?_
  show Go _ _ _ _ _ _ _ (T2.setTop (mkF m 10 #[.val (.ref a)] [(.int (0 : Int32))]))
  refine Go.retI X2 hx hlk hret (hb hby d10_10) (by decide) (by decide) ?_
  rw [e2]
  exact ⟨rfl, N2, rfl⟩
theorem pd5 : parseMethodDescriptor "()I" = some ⟨[], some .int⟩ := by decide +kernel
theorem d9_0 : decode prog_43_method_4_code 0 = .ok (.aload_n 0, 1) := by decide +kernel
theorem d9_1 : decode prog_43_method_4_code 1 = .ok (.invokevirtual 35, 3) := by decide +kernel
theorem d9_4 : decode prog_43_method_4_code 4 = .ok (.iconst 3, 1) := by decide +kernel
theorem d9_5 : decode prog_43_method_4_code 5 = .ok (.if_icmp .ne 7, 3) := by decide +kernel
theorem d9_12 : decode prog_43_method_4_code 12 = .ok (.iconst 0, 1) := by decide +kernel
theorem d9_13 : decode prog_43_method_4_code 13 = .ok (.istore_n 1, 1) := by decide +kernel
theorem d9_14 : decode prog_43_method_4_code 14 = .ok (.iconst 0, 1) := by decide +kernel
theorem d9_15 : decode prog_43_method_4_code 15 = .ok (.istore_n 2, 1) := by decide +kernel
theorem d9_16 : decode prog_43_method_4_code 16 = .ok (.iload_n 2, 1) := by decide +kernel
theorem d9_17 : decode prog_43_method_4_code 17 = .ok (.aload_n 0, 1) := by decide +kernel
theorem d9_18 : decode prog_43_method_4_code 18 = .ok (.invokevirtual 35, 3) := by decide +kernel
theorem d9_21 : decode prog_43_method_4_code 21 = .ok (.if_icmp .ge 39, 3) := by decide +kernel
theorem d9_60 : decode prog_43_method_4_code 60 = .ok (.iload_n 1, 1) := by decide +kernel
theorem d9_61 : decode prog_43_method_4_code 61 = .ok (.ireturn, 1) := by decide +kernel
theorem pn3 : plainName "com/example/ddos_fee_ledger/ddosfeeledger/Money" = true := by first | (simp [plainName, overriddenIn]; done) | decide +kernel
theorem ef_9_0 (m : MethodId) (a : Addr) : entryFrame m #[(.ref a)] 3 = mkF m 0 #[.val (.ref a), .unset, .unset] [] := by first | (simp [entryFrame, mkF, argsToLocals, Value.category]; done) | rfl
def Q9_0 (Z : State) (a : Addr) (d : Addr) (kd : ClassId) (gd : Nat → Int32) (cs : Int32) (h0 : Heap) (n0 : Nat) (v : Option Value) (h : Heap) (L : List Loc) : Prop := v = some (.int (0 : Int32)) ∧ Fr n0 L ∧ h = h0
set_option maxRecDepth 65536 in
set_option maxHeartbeats 40000000 in
theorem rm9_0 (l : Launch) (Z : State) (a0 : Array Value) (hw : ∀ d ∈ tables_1, d.before a0 Z = true) (a : Addr) (d : Addr) (kd : ClassId) (gd : Nat → Int32) (cs : Int32) (h0 : Heap) (n0 : Nat) (Zs : n0 ≤ h0.size) (Od : Old Z n0 h0) (E_a : Exa Z h0 a "java/lang/String") (F_a_value : Fld Z h0 a "java/lang/String" "value" "[B" (.ref d)) (F_a_coder : Fld Z h0 a "java/lang/String" "coder" "B" (.int (0 : Int32))) (A_d : AF Z h0 d kd .byte 0 (fun i => .int (gd i))) (Scs : Sta Z Z.heap "java/lang/String" "COMPACT_STRINGS" "Z" (.int cs)) (hcs : ¬ cs = (0 : Int32)) :
    Con l Z (⟨"com/example/ddos_fee_ledger/ddosfeeledger/Money", "isCurrency", "(Ljava/lang/String;)Z"⟩ : MethodName) prog_43_method_4_code 3 (some .boolean) ({ frames := 2, cells := 0, slots := 0, locals := 26 } : Room) #[(.ref a)] h0 (Q9_0 Z a d kd gd cs h0 n0) := by
  refine Con.intro (plainFor_of_name pn3) (fun m => ef_9_0 m a) ?_
  intro p e s m below meth c s₁ hx hby hml0 hZ hown hnm hret hlk X0 e0
  have hml : c.maxLocals = 3 := hml0
  have N0 := Fr.nil n0
  have Kp : Keep h0 h0 [] := Keep.refl h0 _
  show Go _ _ _ _ _ _ _ (s₁.setTop (mkF m 0 #[.val (.ref a), .unset, .unset] []))
  refine Go.of (fun _ q => XS.aloadN X0.here hx rfl (hb hby d9_0) rfl rfl q) ?_
  show Go _ _ _ _ _ _ _ (s₁.setTop (mkF m 1 #[.val (.ref a), .unset, .unset] [(.ref a)]))
  refine Go.virtual X0 hx hZ (y := (⟨"java/lang/String", "length", "()I"⟩ : MethodName)) (z := (⟨"java/lang/String", "length", "()I"⟩ : MethodName)) (a := a) (argsL := []) hown (hw _ (List.mem_of_getElem? (i := 42) rfl)) (hw _ (List.mem_of_getElem? (i := 43) rfl)) (notFace_of_selects (args := #[]) (mvT hZ (hw _ (List.mem_of_getElem? (i := 45) rfl)))) (hw _ (List.mem_of_getElem? (i := 45) rfl)) (hw _ (List.mem_of_getElem? (i := 44) rfl)) (hw _ (List.mem_of_getElem? (i := 7) rfl)) (hw _ (List.mem_of_getElem? (i := 46) rfl)) (by decide) 0 e0 E_a (rm10_0 l Z a0 hw a d kd gd cs h0 n0 Zs Od E_a F_a_value F_a_coder A_d Scs hcs) (by decide) (by decide) (by decide) (by decide) (g := (mkF m 1 #[.val (.ref a), .unset, .unset] [(.ref a)])) rfl (by rw [hml]; rfl) (rest := []) (lenOf pd5 rfl) rfl (by show 2 * 0 + _ ≤ _; exact Nat.le_of_eq rfl) (hb hby d9_1) ?_
  intro T1 v1 L1 X1 q1
  obtain ⟨rfl, Nq1, e1⟩ := q1
  have N1 := Fr.app N0 Nq1
  show Go _ _ _ _ _ _ _ (T1.setTop (mkF m 4 #[.val (.ref a), .unset, .unset] [(.int (0 : Int32))]))
  refine Go.of (fun _ q => XS.iconst X1.here hx rfl (hb hby d9_4) q) ?_
  show Go _ _ _ _ _ _ _ (T1.setTop (mkF m 5 #[.val (.ref a), .unset, .unset] [(.int (3 : Int32)), (.int (0 : Int32))]))
  refine Go.of (fun _ q => XS.icmpYes X1.here hx rfl (pc0 := 5) (pc' := 12) rfl (hb hby d9_5) rfl (feq (by decide)).2 (by decide) (by decide) q) ?_
  show Go _ _ _ _ _ _ _ (T1.setTop (mkF m 12 #[.val (.ref a), .unset, .unset] []))
  refine Go.of (fun _ q => XS.iconst X1.here hx rfl (hb hby d9_12) q) ?_
  show Go _ _ _ _ _ _ _ (T1.setTop (mkF m 13 #[.val (.ref a), .unset, .unset] [(.int (0 : Int32))]))
  refine Go.of (fun _ q => XS.istoreN X1.here hx rfl (hb hby d9_13) rfl (l' := #[.val (.ref a), .val (.int (0 : Int32)), .unset]) rfl q) ?_
  show Go _ _ _ _ _ _ _ (T1.setTop (mkF m 14 #[.val (.ref a), .val (.int (0 : Int32)), .unset] []))
  refine Go.of (fun _ q => XS.iconst X1.here hx rfl (hb hby d9_14) q) ?_
  show Go _ _ _ _ _ _ _ (T1.setTop (mkF m 15 #[.val (.ref a), .val (.int (0 : Int32)), .unset] [(.int (0 : Int32))]))
  refine Go.of (fun _ q => XS.istoreN X1.here hx rfl (hb hby d9_15) rfl (l' := #[.val (.ref a), .val (.int (0 : Int32)), .val (.int (0 : Int32))]) rfl q) ?_
  show Go _ _ _ _ _ _ _ (T1.setTop (mkF m 16 #[.val (.ref a), .val (.int (0 : Int32)), .val (.int (0 : Int32))] []))
  refine Go.of (fun _ q => XS.iloadN X1.here hx rfl (hb hby d9_16) rfl q) ?_
  show Go _ _ _ _ _ _ _ (T1.setTop (mkF m 17 #[.val (.ref a), .val (.int (0 : Int32)), .val (.int (0 : Int32))] [(.int (0 : Int32))]))
  refine Go.of (fun _ q => XS.aloadN X1.here hx rfl (hb hby d9_17) rfl rfl q) ?_
  show Go _ _ _ _ _ _ _ (T1.setTop (mkF m 18 #[.val (.ref a), .val (.int (0 : Int32)), .val (.int (0 : Int32))] [(.ref a), (.int (0 : Int32))]))
  refine Go.virtual X1 hx hZ (y := (⟨"java/lang/String", "length", "()I"⟩ : MethodName)) (z := (⟨"java/lang/String", "length", "()I"⟩ : MethodName)) (a := a) (argsL := []) hown (hw _ (List.mem_of_getElem? (i := 42) rfl)) (hw _ (List.mem_of_getElem? (i := 43) rfl)) (notFace_of_selects (args := #[]) (mvT hZ (hw _ (List.mem_of_getElem? (i := 45) rfl)))) (hw _ (List.mem_of_getElem? (i := 45) rfl)) (hw _ (List.mem_of_getElem? (i := 44) rfl)) (hw _ (List.mem_of_getElem? (i := 7) rfl)) (hw _ (List.mem_of_getElem? (i := 46) rfl)) (by decide) 1 e1 E_a (rm10_0 l Z a0 hw a d kd gd cs h0 n0 Zs Od E_a F_a_value F_a_coder A_d Scs hcs) (by decide) (by decide) (by decide) (by decide) (g := (mkF m 18 #[.val (.ref a), .val (.int (0 : Int32)), .val (.int (0 : Int32))] [(.ref a), (.int (0 : Int32))])) rfl (by rw [hml]; rfl) (rest := [(.int (0 : Int32))]) (lenOf pd5 rfl) rfl (by show 2 * 0 + _ ≤ _; exact Nat.le_of_eq rfl) (hb hby d9_18) ?_
  intro T2 v2 L2 X2 q2
  obtain ⟨rfl, Nq2, e2⟩ := q2
  have N2 := Fr.app N1 Nq2
  show Go _ _ _ _ _ _ _ (T2.setTop (mkF m 21 #[.val (.ref a), .val (.int (0 : Int32)), .val (.int (0 : Int32))] [(.int (0 : Int32)), (.int (0 : Int32))]))
  refine Go.of (fun _ q => XS.icmpYes X2.here hx rfl (pc0 := 21) (pc' := 60) rfl (hb hby d9_21) rfl (flt (by decide)).2.1 (by decide) (by decide) q) ?_
  show Go _ _ _ _ _ _ _ (T2.setTop (mkF m 60 #[.val (.ref a), .val (.int (0 : Int32)), .val (.int (0 : Int32))] []))
  refine Go.of (fun _ q => XS.iloadN X2.here hx rfl (hb hby d9_60) rfl q) ?_
  show Go _ _ _ _ _ _ _ (T2.setTop (mkF m 61 #[.val (.ref a), .val (.int (0 : Int32)), .val (.int (0 : Int32))] [(.int (0 : Int32))]))
  refine Go.retN X2 hx hlk (t := .boolean) hret (by simp) (hb hby d9_61) rfl (by decide) (by decide) ?_
  rw [e2]
  exact ⟨rfl, N2, rfl⟩
theorem ef_10_1 (m : MethodId) (a : Addr) : entryFrame m #[(.ref a)] 1 = mkF m 0 #[.val (.ref a)] [] := by first | (simp [entryFrame, mkF, argsToLocals, Value.category]; done) | rfl
def Q10_1 (Z : State) (a : Addr) (d : Addr) (kd : ClassId) (gd : Nat → Int32) (cs : Int32) (h0 : Heap) (n0 : Nat) (v : Option Value) (h : Heap) (L : List Loc) : Prop := v = some (.int (1 : Int32)) ∧ Fr n0 L ∧ h = h0
set_option maxRecDepth 65536 in
set_option maxHeartbeats 40000000 in
theorem rm10_1 (l : Launch) (Z : State) (a0 : Array Value) (hw : ∀ d ∈ tables_1, d.before a0 Z = true) (a : Addr) (d : Addr) (kd : ClassId) (gd : Nat → Int32) (cs : Int32) (h0 : Heap) (n0 : Nat) (Zs : n0 ≤ h0.size) (Od : Old Z n0 h0) (E_a : Exa Z h0 a "java/lang/String") (F_a_value : Fld Z h0 a "java/lang/String" "value" "[B" (.ref d)) (F_a_coder : Fld Z h0 a "java/lang/String" "coder" "B" (.int (0 : Int32))) (A_d : AF Z h0 d kd .byte 1 (fun i => .int (gd i))) (Scs : Sta Z Z.heap "java/lang/String" "COMPACT_STRINGS" "Z" (.int cs)) (hcs : ¬ cs = (0 : Int32)) :
    Con l Z (⟨"java/lang/String", "length", "()I"⟩ : MethodName) jdk_42_method_54_code 1 (some .int) ({ frames := 1, cells := 0, slots := 0, locals := 13 } : Room) #[(.ref a)] h0 (Q10_1 Z a d kd gd cs h0 n0) := by
  refine Con.intro (plainFor_of_name pn0) (fun m => ef_10_1 m a) ?_
  intro p e s m below meth c s₁ hx hby hml0 hZ hown hnm hret hlk X0 e0
  have hml : c.maxLocals = 1 := hml0
  have N0 := Fr.nil n0
  have Kp : Keep h0 h0 [] := Keep.refl h0 _
  show Go _ _ _ _ _ _ _ (s₁.setTop (mkF m 0 #[.val (.ref a)] []))
  refine Go.of (fun _ q => XS.aloadN X0.here hx rfl (hb hby d10_0) rfl rfl q) ?_
  show Go _ _ _ _ _ _ _ (s₁.setTop (mkF m 1 #[.val (.ref a)] [(.ref a)]))
  obtain ⟨T1, X1, e1, st1⟩ := getF X0 hx hZ hown (host := "") (Or.inl (hw _ (List.mem_of_getElem? (i := 33) rfl))) Via.refl e0 F_a_value (g := (mkF m 1 #[.val (.ref a)] [(.ref a)])) rfl rfl (hb hby d10_1)
  refine Go.of st1 ?_
  show Go _ _ _ _ _ _ _ (T1.setTop (mkF m 4 #[.val (.ref a)] [(.ref d)]))
  refine Go.of (fun _ q => AF.length A_d X1 hx hZ e1 rfl (g := (mkF m 4 #[.val (.ref a)] [(.ref d)])) rfl rfl (hb hby d10_4) q) ?_
  show Go _ _ _ _ _ _ _ (T1.setTop (mkF m 5 #[.val (.ref a)] [(.int (1 : Int32))]))
  refine Go.of (fun _ q => XS.aloadN X1.here hx rfl (hb hby d10_5) rfl rfl q) ?_
  show Go _ _ _ _ _ _ _ (T1.setTop (mkF m 6 #[.val (.ref a)] [(.ref a), (.int (1 : Int32))]))
  refine Go.virtual X1 hx hZ (y := (⟨"java/lang/String", "coder", "()B"⟩ : MethodName)) (z := (⟨"java/lang/String", "coder", "()B"⟩ : MethodName)) (a := a) (argsL := []) hown (hw _ (List.mem_of_getElem? (i := 47) rfl)) (hw _ (List.mem_of_getElem? (i := 48) rfl)) (notFace_of_selects (args := #[]) (mvT hZ (hw _ (List.mem_of_getElem? (i := 50) rfl)))) (hw _ (List.mem_of_getElem? (i := 50) rfl)) (hw _ (List.mem_of_getElem? (i := 49) rfl)) (hw _ (List.mem_of_getElem? (i := 7) rfl)) (hw _ (List.mem_of_getElem? (i := 51) rfl)) (by decide) 1 e1 E_a (rm11 l Z a0 hw a cs h0 n0 Zs Od F_a_coder Scs hcs) (by decide) (by decide) (by decide) (by decide) (g := (mkF m 6 #[.val (.ref a)] [(.ref a), (.int (1 : Int32))])) rfl (by rw [hml]; rfl) (rest := [(.int (1 : Int32))]) (lenOf pd4 rfl) rfl (by show 2 * 0 + _ ≤ _; exact Nat.le_of_eq rfl) (hb hby d10_6) ?_
  intro T2 v2 L2 X2 q2
  obtain ⟨rfl, Nq2, e2⟩ := q2
  have N2 := Fr.app N0 Nq2
  show Go _ _ _ _ _ _ _ (T2.setTop (mkF m 9 #[.val (.ref a)] [(.int (0 : Int32)), (.int (1 : Int32))]))
  refine Go.of (fun _ q => XS.ishr X2.here hx rfl (hb hby d10_9) rfl q) ?_
  show Go _ _ _ _ _ _ _ (T2.setTop (mkF m 10 #[.val (.ref a)] [(.int (1 : Int32))]))
  refine Go.retI X2 hx hlk hret (hb hby d10_10) (by decide) (by decide) ?_
  rw [e2]
  exact ⟨rfl, N2, rfl⟩
theorem d9_24 : decode prog_43_method_4_code 24 = .ok (.iload_n 1, 1) := by decide +kernel
theorem d9_25 : decode prog_43_method_4_code 25 = .ok (.ifCond .eq 35, 3) := by decide +kernel
theorem ef_9_1 (m : MethodId) (a : Addr) : entryFrame m #[(.ref a)] 3 = mkF m 0 #[.val (.ref a), .unset, .unset] [] := by first | (simp [entryFrame, mkF, argsToLocals, Value.category]; done) | rfl
def Q9_1 (Z : State) (a : Addr) (d : Addr) (kd : ClassId) (gd : Nat → Int32) (cs : Int32) (h0 : Heap) (n0 : Nat) (v : Option Value) (h : Heap) (L : List Loc) : Prop := v = some (.int (0 : Int32)) ∧ Fr n0 L ∧ h = h0
set_option maxRecDepth 65536 in
set_option maxHeartbeats 40000000 in
theorem rm9_1 (l : Launch) (Z : State) (a0 : Array Value) (hw : ∀ d ∈ tables_1, d.before a0 Z = true) (a : Addr) (d : Addr) (kd : ClassId) (gd : Nat → Int32) (cs : Int32) (h0 : Heap) (n0 : Nat) (Zs : n0 ≤ h0.size) (Od : Old Z n0 h0) (E_a : Exa Z h0 a "java/lang/String") (F_a_value : Fld Z h0 a "java/lang/String" "value" "[B" (.ref d)) (F_a_coder : Fld Z h0 a "java/lang/String" "coder" "B" (.int (0 : Int32))) (A_d : AF Z h0 d kd .byte 1 (fun i => .int (gd i))) (Scs : Sta Z Z.heap "java/lang/String" "COMPACT_STRINGS" "Z" (.int cs)) (hcs : ¬ cs = (0 : Int32)) :
    Con l Z (⟨"com/example/ddos_fee_ledger/ddosfeeledger/Money", "isCurrency", "(Ljava/lang/String;)Z"⟩ : MethodName) prog_43_method_4_code 3 (some .boolean) ({ frames := 2, cells := 0, slots := 0, locals := 26 } : Room) #[(.ref a)] h0 (Q9_1 Z a d kd gd cs h0 n0) := by
  refine Con.intro (plainFor_of_name pn3) (fun m => ef_9_1 m a) ?_
  intro p e s m below meth c s₁ hx hby hml0 hZ hown hnm hret hlk X0 e0
  have hml : c.maxLocals = 3 := hml0
  have N0 := Fr.nil n0
  have Kp : Keep h0 h0 [] := Keep.refl h0 _
  show Go _ _ _ _ _ _ _ (s₁.setTop (mkF m 0 #[.val (.ref a), .unset, .unset] []))
  refine Go.of (fun _ q => XS.aloadN X0.here hx rfl (hb hby d9_0) rfl rfl q) ?_
  show Go _ _ _ _ _ _ _ (s₁.setTop (mkF m 1 #[.val (.ref a), .unset, .unset] [(.ref a)]))
  refine Go.virtual X0 hx hZ (y := (⟨"java/lang/String", "length", "()I"⟩ : MethodName)) (z := (⟨"java/lang/String", "length", "()I"⟩ : MethodName)) (a := a) (argsL := []) hown (hw _ (List.mem_of_getElem? (i := 42) rfl)) (hw _ (List.mem_of_getElem? (i := 43) rfl)) (notFace_of_selects (args := #[]) (mvT hZ (hw _ (List.mem_of_getElem? (i := 45) rfl)))) (hw _ (List.mem_of_getElem? (i := 45) rfl)) (hw _ (List.mem_of_getElem? (i := 44) rfl)) (hw _ (List.mem_of_getElem? (i := 7) rfl)) (hw _ (List.mem_of_getElem? (i := 46) rfl)) (by decide) 0 e0 E_a (rm10_1 l Z a0 hw a d kd gd cs h0 n0 Zs Od E_a F_a_value F_a_coder A_d Scs hcs) (by decide) (by decide) (by decide) (by decide) (g := (mkF m 1 #[.val (.ref a), .unset, .unset] [(.ref a)])) rfl (by rw [hml]; rfl) (rest := []) (lenOf pd5 rfl) rfl (by show 2 * 0 + _ ≤ _; exact Nat.le_of_eq rfl) (hb hby d9_1) ?_
  intro T1 v1 L1 X1 q1
  obtain ⟨rfl, Nq1, e1⟩ := q1
  have N1 := Fr.app N0 Nq1
  show Go _ _ _ _ _ _ _ (T1.setTop (mkF m 4 #[.val (.ref a), .unset, .unset] [(.int (1 : Int32))]))
  refine Go.of (fun _ q => XS.iconst X1.here hx rfl (hb hby d9_4) q) ?_
  show Go _ _ _ _ _ _ _ (T1.setTop (mkF m 5 #[.val (.ref a), .unset, .unset] [(.int (3 : Int32)), (.int (1 : Int32))]))
  refine Go.of (fun _ q => XS.icmpYes X1.here hx rfl (pc0 := 5) (pc' := 12) rfl (hb hby d9_5) rfl (feq (by decide)).2 (by decide) (by decide) q) ?_
  show Go _ _ _ _ _ _ _ (T1.setTop (mkF m 12 #[.val (.ref a), .unset, .unset] []))
  refine Go.of (fun _ q => XS.iconst X1.here hx rfl (hb hby d9_12) q) ?_
  show Go _ _ _ _ _ _ _ (T1.setTop (mkF m 13 #[.val (.ref a), .unset, .unset] [(.int (0 : Int32))]))
  refine Go.of (fun _ q => XS.istoreN X1.here hx rfl (hb hby d9_13) rfl (l' := #[.val (.ref a), .val (.int (0 : Int32)), .unset]) rfl q) ?_
  show Go _ _ _ _ _ _ _ (T1.setTop (mkF m 14 #[.val (.ref a), .val (.int (0 : Int32)), .unset] []))
  refine Go.of (fun _ q => XS.iconst X1.here hx rfl (hb hby d9_14) q) ?_
  show Go _ _ _ _ _ _ _ (T1.setTop (mkF m 15 #[.val (.ref a), .val (.int (0 : Int32)), .unset] [(.int (0 : Int32))]))
  refine Go.of (fun _ q => XS.istoreN X1.here hx rfl (hb hby d9_15) rfl (l' := #[.val (.ref a), .val (.int (0 : Int32)), .val (.int (0 : Int32))]) rfl q) ?_
  show Go _ _ _ _ _ _ _ (T1.setTop (mkF m 16 #[.val (.ref a), .val (.int (0 : Int32)), .val (.int (0 : Int32))] []))
  refine Go.of (fun _ q => XS.iloadN X1.here hx rfl (hb hby d9_16) rfl q) ?_
  show Go _ _ _ _ _ _ _ (T1.setTop (mkF m 17 #[.val (.ref a), .val (.int (0 : Int32)), .val (.int (0 : Int32))] [(.int (0 : Int32))]))
  refine Go.of (fun _ q => XS.aloadN X1.here hx rfl (hb hby d9_17) rfl rfl q) ?_
  show Go _ _ _ _ _ _ _ (T1.setTop (mkF m 18 #[.val (.ref a), .val (.int (0 : Int32)), .val (.int (0 : Int32))] [(.ref a), (.int (0 : Int32))]))
  refine Go.virtual X1 hx hZ (y := (⟨"java/lang/String", "length", "()I"⟩ : MethodName)) (z := (⟨"java/lang/String", "length", "()I"⟩ : MethodName)) (a := a) (argsL := []) hown (hw _ (List.mem_of_getElem? (i := 42) rfl)) (hw _ (List.mem_of_getElem? (i := 43) rfl)) (notFace_of_selects (args := #[]) (mvT hZ (hw _ (List.mem_of_getElem? (i := 45) rfl)))) (hw _ (List.mem_of_getElem? (i := 45) rfl)) (hw _ (List.mem_of_getElem? (i := 44) rfl)) (hw _ (List.mem_of_getElem? (i := 7) rfl)) (hw _ (List.mem_of_getElem? (i := 46) rfl)) (by decide) 1 e1 E_a (rm10_1 l Z a0 hw a d kd gd cs h0 n0 Zs Od E_a F_a_value F_a_coder A_d Scs hcs) (by decide) (by decide) (by decide) (by decide) (g := (mkF m 18 #[.val (.ref a), .val (.int (0 : Int32)), .val (.int (0 : Int32))] [(.ref a), (.int (0 : Int32))])) rfl (by rw [hml]; rfl) (rest := [(.int (0 : Int32))]) (lenOf pd5 rfl) rfl (by show 2 * 0 + _ ≤ _; exact Nat.le_of_eq rfl) (hb hby d9_18) ?_
  intro T2 v2 L2 X2 q2
  obtain ⟨rfl, Nq2, e2⟩ := q2
  have N2 := Fr.app N1 Nq2
  show Go _ _ _ _ _ _ _ (T2.setTop (mkF m 21 #[.val (.ref a), .val (.int (0 : Int32)), .val (.int (0 : Int32))] [(.int (1 : Int32)), (.int (0 : Int32))]))
  refine Go.of (fun _ q => XS.icmpNo X2.here hx rfl (hb hby d9_21) rfl (tlt (by decide)).2.1 q) ?_
  show Go _ _ _ _ _ _ _ (T2.setTop (mkF m 24 #[.val (.ref a), .val (.int (0 : Int32)), .val (.int (0 : Int32))] []))
  refine Go.of (fun _ q => XS.iloadN X2.here hx rfl (hb hby d9_24) rfl q) ?_
  show Go _ _ _ _ _ _ _ (T2.setTop (mkF m 25 #[.val (.ref a), .val (.int (0 : Int32)), .val (.int (0 : Int32))] [(.int (0 : Int32))]))
  refine Go.of (fun _ q => XS.ifYes X2.here hx rfl (pc0 := 25) (pc' := 60) rfl (hb hby d9_25) rfl ((if0 _ _).trans (teq rfl).1) (by decide) (by decide) q) ?_
  show Go _ _ _ _ _ _ _ (T2.setTop (mkF m 60 #[.val (.ref a), .val (.int (0 : Int32)), .val (.int (0 : Int32))] []))
  refine Go.of (fun _ q => XS.iloadN X2.here hx rfl (hb hby d9_60) rfl q) ?_
  show Go _ _ _ _ _ _ _ (T2.setTop (mkF m 61 #[.val (.ref a), .val (.int (0 : Int32)), .val (.int (0 : Int32))] [(.int (0 : Int32))]))
  refine Go.retN X2 hx hlk (t := .boolean) hret (by simp) (hb hby d9_61) rfl (by decide) (by decide) ?_
  rw [e2]
  exact ⟨rfl, N2, rfl⟩
theorem ef_10_2 (m : MethodId) (a : Addr) : entryFrame m #[(.ref a)] 1 = mkF m 0 #[.val (.ref a)] [] := by first | (simp [entryFrame, mkF, argsToLocals, Value.category]; done) | rfl
def Q10_2 (Z : State) (a : Addr) (d : Addr) (kd : ClassId) (gd : Nat → Int32) (cs : Int32) (h0 : Heap) (n0 : Nat) (v : Option Value) (h : Heap) (L : List Loc) : Prop := v = some (.int (2 : Int32)) ∧ Fr n0 L ∧ h = h0
set_option maxRecDepth 65536 in
set_option maxHeartbeats 40000000 in
theorem rm10_2 (l : Launch) (Z : State) (a0 : Array Value) (hw : ∀ d ∈ tables_1, d.before a0 Z = true) (a : Addr) (d : Addr) (kd : ClassId) (gd : Nat → Int32) (cs : Int32) (h0 : Heap) (n0 : Nat) (Zs : n0 ≤ h0.size) (Od : Old Z n0 h0) (E_a : Exa Z h0 a "java/lang/String") (F_a_value : Fld Z h0 a "java/lang/String" "value" "[B" (.ref d)) (F_a_coder : Fld Z h0 a "java/lang/String" "coder" "B" (.int (0 : Int32))) (A_d : AF Z h0 d kd .byte 2 (fun i => .int (gd i))) (Scs : Sta Z Z.heap "java/lang/String" "COMPACT_STRINGS" "Z" (.int cs)) (hcs : ¬ cs = (0 : Int32)) :
    Con l Z (⟨"java/lang/String", "length", "()I"⟩ : MethodName) jdk_42_method_54_code 1 (some .int) ({ frames := 1, cells := 0, slots := 0, locals := 13 } : Room) #[(.ref a)] h0 (Q10_2 Z a d kd gd cs h0 n0) := by
  refine Con.intro (plainFor_of_name pn0) (fun m => ef_10_2 m a) ?_
  intro p e s m below meth c s₁ hx hby hml0 hZ hown hnm hret hlk X0 e0
  have hml : c.maxLocals = 1 := hml0
  have N0 := Fr.nil n0
  have Kp : Keep h0 h0 [] := Keep.refl h0 _
  show Go _ _ _ _ _ _ _ (s₁.setTop (mkF m 0 #[.val (.ref a)] []))
  refine Go.of (fun _ q => XS.aloadN X0.here hx rfl (hb hby d10_0) rfl rfl q) ?_
  show Go _ _ _ _ _ _ _ (s₁.setTop (mkF m 1 #[.val (.ref a)] [(.ref a)]))
  obtain ⟨T1, X1, e1, st1⟩ := getF X0 hx hZ hown (host := "") (Or.inl (hw _ (List.mem_of_getElem? (i := 33) rfl))) Via.refl e0 F_a_value (g := (mkF m 1 #[.val (.ref a)] [(.ref a)])) rfl rfl (hb hby d10_1)
  refine Go.of st1 ?_
  show Go _ _ _ _ _ _ _ (T1.setTop (mkF m 4 #[.val (.ref a)] [(.ref d)]))
  refine Go.of (fun _ q => AF.length A_d X1 hx hZ e1 rfl (g := (mkF m 4 #[.val (.ref a)] [(.ref d)])) rfl rfl (hb hby d10_4) q) ?_
  show Go _ _ _ _ _ _ _ (T1.setTop (mkF m 5 #[.val (.ref a)] [(.int (2 : Int32))]))
  refine Go.of (fun _ q => XS.aloadN X1.here hx rfl (hb hby d10_5) rfl rfl q) ?_
  show Go _ _ _ _ _ _ _ (T1.setTop (mkF m 6 #[.val (.ref a)] [(.ref a), (.int (2 : Int32))]))
  refine Go.virtual X1 hx hZ (y := (⟨"java/lang/String", "coder", "()B"⟩ : MethodName)) (z := (⟨"java/lang/String", "coder", "()B"⟩ : MethodName)) (a := a) (argsL := []) hown (hw _ (List.mem_of_getElem? (i := 47) rfl)) (hw _ (List.mem_of_getElem? (i := 48) rfl)) (notFace_of_selects (args := #[]) (mvT hZ (hw _ (List.mem_of_getElem? (i := 50) rfl)))) (hw _ (List.mem_of_getElem? (i := 50) rfl)) (hw _ (List.mem_of_getElem? (i := 49) rfl)) (hw _ (List.mem_of_getElem? (i := 7) rfl)) (hw _ (List.mem_of_getElem? (i := 51) rfl)) (by decide) 1 e1 E_a (rm11 l Z a0 hw a cs h0 n0 Zs Od F_a_coder Scs hcs) (by decide) (by decide) (by decide) (by decide) (g := (mkF m 6 #[.val (.ref a)] [(.ref a), (.int (2 : Int32))])) rfl (by rw [hml]; rfl) (rest := [(.int (2 : Int32))]) (lenOf pd4 rfl) rfl (by show 2 * 0 + _ ≤ _; exact Nat.le_of_eq rfl) (hb hby d10_6) ?_
  intro T2 v2 L2 X2 q2
  obtain ⟨rfl, Nq2, e2⟩ := q2
  have N2 := Fr.app N0 Nq2
  show Go _ _ _ _ _ _ _ (T2.setTop (mkF m 9 #[.val (.ref a)] [(.int (0 : Int32)), (.int (2 : Int32))]))
  refine Go.of (fun _ q => XS.ishr X2.here hx rfl (hb hby d10_9) rfl q) ?_
  show Go _ _ _ _ _ _ _ (T2.setTop (mkF m 10 #[.val (.ref a)] [(.int (2 : Int32))]))
  refine Go.retI X2 hx hlk hret (hb hby d10_10) (by decide) (by decide) ?_
  rw [e2]
  exact ⟨rfl, N2, rfl⟩
theorem ef_9_2 (m : MethodId) (a : Addr) : entryFrame m #[(.ref a)] 3 = mkF m 0 #[.val (.ref a), .unset, .unset] [] := by first | (simp [entryFrame, mkF, argsToLocals, Value.category]; done) | rfl
def Q9_2 (Z : State) (a : Addr) (d : Addr) (kd : ClassId) (gd : Nat → Int32) (cs : Int32) (h0 : Heap) (n0 : Nat) (v : Option Value) (h : Heap) (L : List Loc) : Prop := v = some (.int (0 : Int32)) ∧ Fr n0 L ∧ h = h0
set_option maxRecDepth 65536 in
set_option maxHeartbeats 40000000 in
theorem rm9_2 (l : Launch) (Z : State) (a0 : Array Value) (hw : ∀ d ∈ tables_1, d.before a0 Z = true) (a : Addr) (d : Addr) (kd : ClassId) (gd : Nat → Int32) (cs : Int32) (h0 : Heap) (n0 : Nat) (Zs : n0 ≤ h0.size) (Od : Old Z n0 h0) (E_a : Exa Z h0 a "java/lang/String") (F_a_value : Fld Z h0 a "java/lang/String" "value" "[B" (.ref d)) (F_a_coder : Fld Z h0 a "java/lang/String" "coder" "B" (.int (0 : Int32))) (A_d : AF Z h0 d kd .byte 2 (fun i => .int (gd i))) (Scs : Sta Z Z.heap "java/lang/String" "COMPACT_STRINGS" "Z" (.int cs)) (hcs : ¬ cs = (0 : Int32)) :
    Con l Z (⟨"com/example/ddos_fee_ledger/ddosfeeledger/Money", "isCurrency", "(Ljava/lang/String;)Z"⟩ : MethodName) prog_43_method_4_code 3 (some .boolean) ({ frames := 2, cells := 0, slots := 0, locals := 26 } : Room) #[(.ref a)] h0 (Q9_2 Z a d kd gd cs h0 n0) := by
  refine Con.intro (plainFor_of_name pn3) (fun m => ef_9_2 m a) ?_
  intro p e s m below meth c s₁ hx hby hml0 hZ hown hnm hret hlk X0 e0
  have hml : c.maxLocals = 3 := hml0
  have N0 := Fr.nil n0
  have Kp : Keep h0 h0 [] := Keep.refl h0 _
  show Go _ _ _ _ _ _ _ (s₁.setTop (mkF m 0 #[.val (.ref a), .unset, .unset] []))
  refine Go.of (fun _ q => XS.aloadN X0.here hx rfl (hb hby d9_0) rfl rfl q) ?_
  show Go _ _ _ _ _ _ _ (s₁.setTop (mkF m 1 #[.val (.ref a), .unset, .unset] [(.ref a)]))
  refine Go.virtual X0 hx hZ (y := (⟨"java/lang/String", "length", "()I"⟩ : MethodName)) (z := (⟨"java/lang/String", "length", "()I"⟩ : MethodName)) (a := a) (argsL := []) hown (hw _ (List.mem_of_getElem? (i := 42) rfl)) (hw _ (List.mem_of_getElem? (i := 43) rfl)) (notFace_of_selects (args := #[]) (mvT hZ (hw _ (List.mem_of_getElem? (i := 45) rfl)))) (hw _ (List.mem_of_getElem? (i := 45) rfl)) (hw _ (List.mem_of_getElem? (i := 44) rfl)) (hw _ (List.mem_of_getElem? (i := 7) rfl)) (hw _ (List.mem_of_getElem? (i := 46) rfl)) (by decide) 0 e0 E_a (rm10_2 l Z a0 hw a d kd gd cs h0 n0 Zs Od E_a F_a_value F_a_coder A_d Scs hcs) (by decide) (by decide) (by decide) (by decide) (g := (mkF m 1 #[.val (.ref a), .unset, .unset] [(.ref a)])) rfl (by rw [hml]; rfl) (rest := []) (lenOf pd5 rfl) rfl (by show 2 * 0 + _ ≤ _; exact Nat.le_of_eq rfl) (hb hby d9_1) ?_
  intro T1 v1 L1 X1 q1
  obtain ⟨rfl, Nq1, e1⟩ := q1
  have N1 := Fr.app N0 Nq1
  show Go _ _ _ _ _ _ _ (T1.setTop (mkF m 4 #[.val (.ref a), .unset, .unset] [(.int (2 : Int32))]))
  refine Go.of (fun _ q => XS.iconst X1.here hx rfl (hb hby d9_4) q) ?_
  show Go _ _ _ _ _ _ _ (T1.setTop (mkF m 5 #[.val (.ref a), .unset, .unset] [(.int (3 : Int32)), (.int (2 : Int32))]))
  refine Go.of (fun _ q => XS.icmpYes X1.here hx rfl (pc0 := 5) (pc' := 12) rfl (hb hby d9_5) rfl (feq (by decide)).2 (by decide) (by decide) q) ?_
  show Go _ _ _ _ _ _ _ (T1.setTop (mkF m 12 #[.val (.ref a), .unset, .unset] []))
  refine Go.of (fun _ q => XS.iconst X1.here hx rfl (hb hby d9_12) q) ?_
  show Go _ _ _ _ _ _ _ (T1.setTop (mkF m 13 #[.val (.ref a), .unset, .unset] [(.int (0 : Int32))]))
  refine Go.of (fun _ q => XS.istoreN X1.here hx rfl (hb hby d9_13) rfl (l' := #[.val (.ref a), .val (.int (0 : Int32)), .unset]) rfl q) ?_
  show Go _ _ _ _ _ _ _ (T1.setTop (mkF m 14 #[.val (.ref a), .val (.int (0 : Int32)), .unset] []))
  refine Go.of (fun _ q => XS.iconst X1.here hx rfl (hb hby d9_14) q) ?_
  show Go _ _ _ _ _ _ _ (T1.setTop (mkF m 15 #[.val (.ref a), .val (.int (0 : Int32)), .unset] [(.int (0 : Int32))]))
  refine Go.of (fun _ q => XS.istoreN X1.here hx rfl (hb hby d9_15) rfl (l' := #[.val (.ref a), .val (.int (0 : Int32)), .val (.int (0 : Int32))]) rfl q) ?_
  show Go _ _ _ _ _ _ _ (T1.setTop (mkF m 16 #[.val (.ref a), .val (.int (0 : Int32)), .val (.int (0 : Int32))] []))
  refine Go.of (fun _ q => XS.iloadN X1.here hx rfl (hb hby d9_16) rfl q) ?_
  show Go _ _ _ _ _ _ _ (T1.setTop (mkF m 17 #[.val (.ref a), .val (.int (0 : Int32)), .val (.int (0 : Int32))] [(.int (0 : Int32))]))
  refine Go.of (fun _ q => XS.aloadN X1.here hx rfl (hb hby d9_17) rfl rfl q) ?_
  show Go _ _ _ _ _ _ _ (T1.setTop (mkF m 18 #[.val (.ref a), .val (.int (0 : Int32)), .val (.int (0 : Int32))] [(.ref a), (.int (0 : Int32))]))
  refine Go.virtual X1 hx hZ (y := (⟨"java/lang/String", "length", "()I"⟩ : MethodName)) (z := (⟨"java/lang/String", "length", "()I"⟩ : MethodName)) (a := a) (argsL := []) hown (hw _ (List.mem_of_getElem? (i := 42) rfl)) (hw _ (List.mem_of_getElem? (i := 43) rfl)) (notFace_of_selects (args := #[]) (mvT hZ (hw _ (List.mem_of_getElem? (i := 45) rfl)))) (hw _ (List.mem_of_getElem? (i := 45) rfl)) (hw _ (List.mem_of_getElem? (i := 44) rfl)) (hw _ (List.mem_of_getElem? (i := 7) rfl)) (hw _ (List.mem_of_getElem? (i := 46) rfl)) (by decide) 1 e1 E_a (rm10_2 l Z a0 hw a d kd gd cs h0 n0 Zs Od E_a F_a_value F_a_coder A_d Scs hcs) (by decide) (by decide) (by decide) (by decide) (g := (mkF m 18 #[.val (.ref a), .val (.int (0 : Int32)), .val (.int (0 : Int32))] [(.ref a), (.int (0 : Int32))])) rfl (by rw [hml]; rfl) (rest := [(.int (0 : Int32))]) (lenOf pd5 rfl) rfl (by show 2 * 0 + _ ≤ _; exact Nat.le_of_eq rfl) (hb hby d9_18) ?_
  intro T2 v2 L2 X2 q2
  obtain ⟨rfl, Nq2, e2⟩ := q2
  have N2 := Fr.app N1 Nq2
  show Go _ _ _ _ _ _ _ (T2.setTop (mkF m 21 #[.val (.ref a), .val (.int (0 : Int32)), .val (.int (0 : Int32))] [(.int (2 : Int32)), (.int (0 : Int32))]))
  refine Go.of (fun _ q => XS.icmpNo X2.here hx rfl (hb hby d9_21) rfl (tlt (by decide)).2.1 q) ?_
  show Go _ _ _ _ _ _ _ (T2.setTop (mkF m 24 #[.val (.ref a), .val (.int (0 : Int32)), .val (.int (0 : Int32))] []))
  refine Go.of (fun _ q => XS.iloadN X2.here hx rfl (hb hby d9_24) rfl q) ?_
  show Go _ _ _ _ _ _ _ (T2.setTop (mkF m 25 #[.val (.ref a), .val (.int (0 : Int32)), .val (.int (0 : Int32))] [(.int (0 : Int32))]))
  refine Go.of (fun _ q => XS.ifYes X2.here hx rfl (pc0 := 25) (pc' := 60) rfl (hb hby d9_25) rfl ((if0 _ _).trans (teq rfl).1) (by decide) (by decide) q) ?_
  show Go _ _ _ _ _ _ _ (T2.setTop (mkF m 60 #[.val (.ref a), .val (.int (0 : Int32)), .val (.int (0 : Int32))] []))
  refine Go.of (fun _ q => XS.iloadN X2.here hx rfl (hb hby d9_60) rfl q) ?_
  show Go _ _ _ _ _ _ _ (T2.setTop (mkF m 61 #[.val (.ref a), .val (.int (0 : Int32)), .val (.int (0 : Int32))] [(.int (0 : Int32))]))
  refine Go.retN X2 hx hlk (t := .boolean) hret (by simp) (hb hby d9_61) rfl (by decide) (by decide) ?_
  rw [e2]
  exact ⟨rfl, N2, rfl⟩
theorem ef_10_3 (m : MethodId) (a : Addr) : entryFrame m #[(.ref a)] 1 = mkF m 0 #[.val (.ref a)] [] := by first | (simp [entryFrame, mkF, argsToLocals, Value.category]; done) | rfl
def Q10_3 (Z : State) (a : Addr) (d : Addr) (kd : ClassId) (gd : Nat → Int32) (cs : Int32) (h0 : Heap) (n0 : Nat) (v : Option Value) (h : Heap) (L : List Loc) : Prop := v = some (.int (3 : Int32)) ∧ Fr n0 L ∧ h = h0
set_option maxRecDepth 65536 in
set_option maxHeartbeats 40000000 in
theorem rm10_3 (l : Launch) (Z : State) (a0 : Array Value) (hw : ∀ d ∈ tables_1, d.before a0 Z = true) (a : Addr) (d : Addr) (kd : ClassId) (gd : Nat → Int32) (cs : Int32) (h0 : Heap) (n0 : Nat) (Zs : n0 ≤ h0.size) (Od : Old Z n0 h0) (E_a : Exa Z h0 a "java/lang/String") (F_a_value : Fld Z h0 a "java/lang/String" "value" "[B" (.ref d)) (F_a_coder : Fld Z h0 a "java/lang/String" "coder" "B" (.int (0 : Int32))) (A_d : AF Z h0 d kd .byte 3 (fun i => .int (gd i))) (Scs : Sta Z Z.heap "java/lang/String" "COMPACT_STRINGS" "Z" (.int cs)) (hcs : ¬ cs = (0 : Int32)) :
    Con l Z (⟨"java/lang/String", "length", "()I"⟩ : MethodName) jdk_42_method_54_code 1 (some .int) ({ frames := 1, cells := 0, slots := 0, locals := 13 } : Room) #[(.ref a)] h0 (Q10_3 Z a d kd gd cs h0 n0) := by
  refine Con.intro (plainFor_of_name pn0) (fun m => ef_10_3 m a) ?_
  intro p e s m below meth c s₁ hx hby hml0 hZ hown hnm hret hlk X0 e0
  have hml : c.maxLocals = 1 := hml0
  have N0 := Fr.nil n0
  have Kp : Keep h0 h0 [] := Keep.refl h0 _
  show Go _ _ _ _ _ _ _ (s₁.setTop (mkF m 0 #[.val (.ref a)] []))
  refine Go.of (fun _ q => XS.aloadN X0.here hx rfl (hb hby d10_0) rfl rfl q) ?_
  show Go _ _ _ _ _ _ _ (s₁.setTop (mkF m 1 #[.val (.ref a)] [(.ref a)]))
  obtain ⟨T1, X1, e1, st1⟩ := getF X0 hx hZ hown (host := "") (Or.inl (hw _ (List.mem_of_getElem? (i := 33) rfl))) Via.refl e0 F_a_value (g := (mkF m 1 #[.val (.ref a)] [(.ref a)])) rfl rfl (hb hby d10_1)
  refine Go.of st1 ?_
  show Go _ _ _ _ _ _ _ (T1.setTop (mkF m 4 #[.val (.ref a)] [(.ref d)]))
  refine Go.of (fun _ q => AF.length A_d X1 hx hZ e1 rfl (g := (mkF m 4 #[.val (.ref a)] [(.ref d)])) rfl rfl (hb hby d10_4) q) ?_
  show Go _ _ _ _ _ _ _ (T1.setTop (mkF m 5 #[.val (.ref a)] [(.int (3 : Int32))]))
  refine Go.of (fun _ q => XS.aloadN X1.here hx rfl (hb hby d10_5) rfl rfl q) ?_
  show Go _ _ _ _ _ _ _ (T1.setTop (mkF m 6 #[.val (.ref a)] [(.ref a), (.int (3 : Int32))]))
  refine Go.virtual X1 hx hZ (y := (⟨"java/lang/String", "coder", "()B"⟩ : MethodName)) (z := (⟨"java/lang/String", "coder", "()B"⟩ : MethodName)) (a := a) (argsL := []) hown (hw _ (List.mem_of_getElem? (i := 47) rfl)) (hw _ (List.mem_of_getElem? (i := 48) rfl)) (notFace_of_selects (args := #[]) (mvT hZ (hw _ (List.mem_of_getElem? (i := 50) rfl)))) (hw _ (List.mem_of_getElem? (i := 50) rfl)) (hw _ (List.mem_of_getElem? (i := 49) rfl)) (hw _ (List.mem_of_getElem? (i := 7) rfl)) (hw _ (List.mem_of_getElem? (i := 51) rfl)) (by decide) 1 e1 E_a (rm11 l Z a0 hw a cs h0 n0 Zs Od F_a_coder Scs hcs) (by decide) (by decide) (by decide) (by decide) (g := (mkF m 6 #[.val (.ref a)] [(.ref a), (.int (3 : Int32))])) rfl (by rw [hml]; rfl) (rest := [(.int (3 : Int32))]) (lenOf pd4 rfl) rfl (by show 2 * 0 + _ ≤ _; exact Nat.le_of_eq rfl) (hb hby d10_6) ?_
  intro T2 v2 L2 X2 q2
  obtain ⟨rfl, Nq2, e2⟩ := q2
  have N2 := Fr.app N0 Nq2
  show Go _ _ _ _ _ _ _ (T2.setTop (mkF m 9 #[.val (.ref a)] [(.int (0 : Int32)), (.int (3 : Int32))]))
  refine Go.of (fun _ q => XS.ishr X2.here hx rfl (hb hby d10_9) rfl q) ?_
  show Go _ _ _ _ _ _ _ (T2.setTop (mkF m 10 #[.val (.ref a)] [(.int (3 : Int32))]))
  refine Go.retI X2 hx hlk hret (hb hby d10_10) (by decide) (by decide) ?_
  rw [e2]
  exact ⟨rfl, N2, rfl⟩
theorem pd6 : parseMethodDescriptor "(I)C" = some ⟨[.int], some .char⟩ := by decide +kernel
theorem d9_8 : decode prog_43_method_4_code 8 = .ok (.iconst 1, 1) := by decide +kernel
theorem d9_9 : decode prog_43_method_4_code 9 = .ok (.goto 4, 3) := by decide +kernel
theorem d9_28 : decode prog_43_method_4_code 28 = .ok (.aload_n 0, 1) := by decide +kernel
theorem d9_29 : decode prog_43_method_4_code 29 = .ok (.iload_n 2, 1) := by decide +kernel
theorem d9_30 : decode prog_43_method_4_code 30 = .ok (.invokevirtual 51, 3) := by decide +kernel
theorem d9_33 : decode prog_43_method_4_code 33 = .ok (.bipush 65, 2) := by decide +kernel
theorem d9_35 : decode prog_43_method_4_code 35 = .ok (.if_icmp .lt 17, 3) := by decide +kernel
theorem d9_38 : decode prog_43_method_4_code 38 = .ok (.aload_n 0, 1) := by decide +kernel
theorem d9_39 : decode prog_43_method_4_code 39 = .ok (.iload_n 2, 1) := by decide +kernel
theorem d9_40 : decode prog_43_method_4_code 40 = .ok (.invokevirtual 51, 3) := by decide +kernel
theorem d9_43 : decode prog_43_method_4_code 43 = .ok (.bipush 90, 2) := by decide +kernel
theorem d9_45 : decode prog_43_method_4_code 45 = .ok (.if_icmp .gt 7, 3) := by decide +kernel
theorem d9_48 : decode prog_43_method_4_code 48 = .ok (.iconst 1, 1) := by decide +kernel
theorem d9_49 : decode prog_43_method_4_code 49 = .ok (.goto 4, 3) := by decide +kernel
theorem d9_52 : decode prog_43_method_4_code 52 = .ok (.iconst 0, 1) := by decide +kernel
theorem d9_53 : decode prog_43_method_4_code 53 = .ok (.istore_n 1, 1) := by decide +kernel
theorem d9_54 : decode prog_43_method_4_code 54 = .ok (.iinc 2 1, 3) := by decide +kernel
theorem d9_57 : decode prog_43_method_4_code 57 = .ok (.goto (-41), 3) := by decide +kernel
theorem ef_9_3 (m : MethodId) (a : Addr) : entryFrame m #[(.ref a)] 3 = mkF m 0 #[.val (.ref a), .unset, .unset] [] := by first | (simp [entryFrame, mkF, argsToLocals, Value.category]; done) | rfl
def Q9_3 (Z : State) (a : Addr) (d : Addr) (kd : ClassId) (gd : Nat → Int32) (fm : Value) (hfm : fm.isRef = true) (cs : Int32) (h0 : Heap) (n0 : Nat) (v : Option Value) (h : Heap) (L : List Loc) : Prop := v = some (.int (own_cur (own_ch (gd 0)) (own_ch (gd 1)) (own_ch (gd 2)))) ∧ Fr n0 L ∧ h = h0
set_option maxRecDepth 65536 in
set_option maxHeartbeats 40000000 in
theorem rm9_3 (l : Launch) (Z : State) (a0 : Array Value) (hw : ∀ d ∈ tables_1, d.before a0 Z = true) (a : Addr) (d : Addr) (kd : ClassId) (gd : Nat → Int32) (fm : Value) (hfm : fm.isRef = true) (cs : Int32) (h0 : Heap) (n0 : Nat) (Zs : n0 ≤ h0.size) (Od : Old Z n0 h0) (E_a : Exa Z h0 a "java/lang/String") (F_a_value : Fld Z h0 a "java/lang/String" "value" "[B" (.ref d)) (F_a_coder : Fld Z h0 a "java/lang/String" "coder" "B" (.int (0 : Int32))) (A_d : AF Z h0 d kd .byte 3 (fun i => .int (gd i))) (Sfm : Sta Z Z.heap "jdk/internal/util/Preconditions" "SIOOBE_FORMATTER" "Ljava/util/function/BiFunction;" fm) (Scs : Sta Z Z.heap "java/lang/String" "COMPACT_STRINGS" "Z" (.int cs)) (hcs : ¬ cs = (0 : Int32)) :
    Con l Z (⟨"com/example/ddos_fee_ledger/ddosfeeledger/Money", "isCurrency", "(Ljava/lang/String;)Z"⟩ : MethodName) prog_43_method_4_code 3 (some .boolean) ({ frames := 4, cells := 0, slots := 0, locals := 53 } : Room) #[(.ref a)] h0 (Q9_3 Z a d kd gd fm hfm cs h0 n0) := by
  refine Con.intro (plainFor_of_name pn3) (fun m => ef_9_3 m a) ?_
  intro p e s m below meth c s₁ hx hby hml0 hZ hown hnm hret hlk X0 e0
  have hml : c.maxLocals = 3 := hml0
  have N0 := Fr.nil n0
  have Kp : Keep h0 h0 [] := Keep.refl h0 _
  show Go _ _ _ _ _ _ _ (s₁.setTop (mkF m 0 #[.val (.ref a), .unset, .unset] []))
  refine Go.of (fun _ q => XS.aloadN X0.here hx rfl (hb hby d9_0) rfl rfl q) ?_
  show Go _ _ _ _ _ _ _ (s₁.setTop (mkF m 1 #[.val (.ref a), .unset, .unset] [(.ref a)]))
  refine Go.virtual X0 hx hZ (y := (⟨"java/lang/String", "length", "()I"⟩ : MethodName)) (z := (⟨"java/lang/String", "length", "()I"⟩ : MethodName)) (a := a) (argsL := []) hown (hw _ (List.mem_of_getElem? (i := 42) rfl)) (hw _ (List.mem_of_getElem? (i := 43) rfl)) (notFace_of_selects (args := #[]) (mvT hZ (hw _ (List.mem_of_getElem? (i := 45) rfl)))) (hw _ (List.mem_of_getElem? (i := 45) rfl)) (hw _ (List.mem_of_getElem? (i := 44) rfl)) (hw _ (List.mem_of_getElem? (i := 7) rfl)) (hw _ (List.mem_of_getElem? (i := 46) rfl)) (by decide) 0 e0 E_a (rm10_3 l Z a0 hw a d kd gd cs h0 n0 Zs Od E_a F_a_value F_a_coder A_d Scs hcs) (by decide) (by decide) (by decide) (by decide) (g := (mkF m 1 #[.val (.ref a), .unset, .unset] [(.ref a)])) rfl (by rw [hml]; rfl) (rest := []) (lenOf pd5 rfl) rfl (by show 2 * 0 + _ ≤ _; exact Nat.le_of_eq rfl) (hb hby d9_1) ?_
  intro T1 v1 L1 X1 q1
  obtain ⟨rfl, Nq1, e1⟩ := q1
  have N1 := Fr.app N0 Nq1
  show Go _ _ _ _ _ _ _ (T1.setTop (mkF m 4 #[.val (.ref a), .unset, .unset] [(.int (3 : Int32))]))
  refine Go.of (fun _ q => XS.iconst X1.here hx rfl (hb hby d9_4) q) ?_
  show Go _ _ _ _ _ _ _ (T1.setTop (mkF m 5 #[.val (.ref a), .unset, .unset] [(.int (3 : Int32)), (.int (3 : Int32))]))
  refine Go.of (fun _ q => XS.icmpNo X1.here hx rfl (hb hby d9_5) rfl (teq rfl).2 q) ?_
  show Go _ _ _ _ _ _ _ (T1.setTop (mkF m 8 #[.val (.ref a), .unset, .unset] []))
  refine Go.of (fun _ q => XS.iconst X1.here hx rfl (hb hby d9_8) q) ?_
  show Go _ _ _ _ _ _ _ (T1.setTop (mkF m 9 #[.val (.ref a), .unset, .unset] [(.int (1 : Int32))]))
  refine Go.of (fun _ q => XS.goto X1.here hx rfl (pc0 := 9) (pc' := 13) rfl (hb hby d9_9) (by decide) (by decide) q) ?_
  show Go _ _ _ _ _ _ _ (T1.setTop (mkF m 13 #[.val (.ref a), .unset, .unset] [(.int (1 : Int32))]))
  refine Go.of (fun _ q => XS.istoreN X1.here hx rfl (hb hby d9_13) rfl (l' := #[.val (.ref a), .val (.int (1 : Int32)), .unset]) rfl q) ?_
  show Go _ _ _ _ _ _ _ (T1.setTop (mkF m 14 #[.val (.ref a), .val (.int (1 : Int32)), .unset] []))
  refine Go.of (fun _ q => XS.iconst X1.here hx rfl (hb hby d9_14) q) ?_
  show Go _ _ _ _ _ _ _ (T1.setTop (mkF m 15 #[.val (.ref a), .val (.int (1 : Int32)), .unset] [(.int (0 : Int32))]))
  refine Go.of (fun _ q => XS.istoreN X1.here hx rfl (hb hby d9_15) rfl (l' := #[.val (.ref a), .val (.int (1 : Int32)), .val (.int (0 : Int32))]) rfl q) ?_
  show Go _ _ _ _ _ _ _ (T1.setTop (mkF m 16 #[.val (.ref a), .val (.int (1 : Int32)), .val (.int (0 : Int32))] []))
  refine Go.of (fun _ q => XS.iloadN X1.here hx rfl (hb hby d9_16) rfl q) ?_
  show Go _ _ _ _ _ _ _ (T1.setTop (mkF m 17 #[.val (.ref a), .val (.int (1 : Int32)), .val (.int (0 : Int32))] [(.int (0 : Int32))]))
  refine Go.of (fun _ q => XS.aloadN X1.here hx rfl (hb hby d9_17) rfl rfl q) ?_
  show Go _ _ _ _ _ _ _ (T1.setTop (mkF m 18 #[.val (.ref a), .val (.int (1 : Int32)), .val (.int (0 : Int32))] [(.ref a), (.int (0 : Int32))]))
  refine Go.virtual X1 hx hZ (y := (⟨"java/lang/String", "length", "()I"⟩ : MethodName)) (z := (⟨"java/lang/String", "length", "()I"⟩ : MethodName)) (a := a) (argsL := []) hown (hw _ (List.mem_of_getElem? (i := 42) rfl)) (hw _ (List.mem_of_getElem? (i := 43) rfl)) (notFace_of_selects (args := #[]) (mvT hZ (hw _ (List.mem_of_getElem? (i := 45) rfl)))) (hw _ (List.mem_of_getElem? (i := 45) rfl)) (hw _ (List.mem_of_getElem? (i := 44) rfl)) (hw _ (List.mem_of_getElem? (i := 7) rfl)) (hw _ (List.mem_of_getElem? (i := 46) rfl)) (by decide) 1 e1 E_a (rm10_3 l Z a0 hw a d kd gd cs h0 n0 Zs Od E_a F_a_value F_a_coder A_d Scs hcs) (by decide) (by decide) (by decide) (by decide) (g := (mkF m 18 #[.val (.ref a), .val (.int (1 : Int32)), .val (.int (0 : Int32))] [(.ref a), (.int (0 : Int32))])) rfl (by rw [hml]; rfl) (rest := [(.int (0 : Int32))]) (lenOf pd5 rfl) rfl (by show 2 * 0 + _ ≤ _; exact Nat.le_of_eq rfl) (hb hby d9_18) ?_
  intro T2 v2 L2 X2 q2
  obtain ⟨rfl, Nq2, e2⟩ := q2
  have N2 := Fr.app N1 Nq2
  show Go _ _ _ _ _ _ _ (T2.setTop (mkF m 21 #[.val (.ref a), .val (.int (1 : Int32)), .val (.int (0 : Int32))] [(.int (3 : Int32)), (.int (0 : Int32))]))
  refine Go.of (fun _ q => XS.icmpNo X2.here hx rfl (hb hby d9_21) rfl (tlt (by decide)).2.1 q) ?_
  show Go _ _ _ _ _ _ _ (T2.setTop (mkF m 24 #[.val (.ref a), .val (.int (1 : Int32)), .val (.int (0 : Int32))] []))
  refine Go.of (fun _ q => XS.iloadN X2.here hx rfl (hb hby d9_24) rfl q) ?_
  show Go _ _ _ _ _ _ _ (T2.setTop (mkF m 25 #[.val (.ref a), .val (.int (1 : Int32)), .val (.int (0 : Int32))] [(.int (1 : Int32))]))
  refine Go.of (fun _ q => XS.ifNo X2.here hx rfl (hb hby d9_25) rfl ((if0 _ _).trans (feq (by decide)).1) q) ?_
  show Go _ _ _ _ _ _ _ (T2.setTop (mkF m 28 #[.val (.ref a), .val (.int (1 : Int32)), .val (.int (0 : Int32))] []))
  refine Go.of (fun _ q => XS.aloadN X2.here hx rfl (hb hby d9_28) rfl rfl q) ?_
  show Go _ _ _ _ _ _ _ (T2.setTop (mkF m 29 #[.val (.ref a), .val (.int (1 : Int32)), .val (.int (0 : Int32))] [(.ref a)]))
  refine Go.of (fun _ q => XS.iloadN X2.here hx rfl (hb hby d9_29) rfl q) ?_
  show Go _ _ _ _ _ _ _ (T2.setTop (mkF m 30 #[.val (.ref a), .val (.int (1 : Int32)), .val (.int (0 : Int32))] [(.int (0 : Int32)), (.ref a)]))
  refine Go.virtual X2 hx hZ (y := (⟨"java/lang/String", "charAt", "(I)C"⟩ : MethodName)) (z := (⟨"java/lang/String", "charAt", "(I)C"⟩ : MethodName)) (a := a) (argsL := [(.int (0 : Int32))]) hown (hw _ (List.mem_of_getElem? (i := 52) rfl)) (hw _ (List.mem_of_getElem? (i := 53) rfl)) (notFace_of_selects (args := #[]) (mvT hZ (hw _ (List.mem_of_getElem? (i := 55) rfl)))) (hw _ (List.mem_of_getElem? (i := 55) rfl)) (hw _ (List.mem_of_getElem? (i := 54) rfl)) (hw _ (List.mem_of_getElem? (i := 7) rfl)) (hw _ (List.mem_of_getElem? (i := 56) rfl)) (by decide) 0 e2 E_a (rm12_i0 l Z a0 hw a d kd gd fm hfm cs h0 n0 Zs Od E_a F_a_value F_a_coder A_d Sfm Scs hcs) (by decide) (by decide) (by decide) (by decide) (g := (mkF m 30 #[.val (.ref a), .val (.int (1 : Int32)), .val (.int (0 : Int32))] [(.int (0 : Int32)), (.ref a)])) rfl (by rw [hml]; rfl) (rest := []) (lenOf pd6 rfl) rfl (by show 2 * 0 + _ ≤ _; exact Nat.le_of_eq rfl) (hb hby d9_30) ?_
  intro T3 v3 L3 X3 q3
  obtain ⟨rfl, Nq3, e3⟩ := q3
  have N3 := Fr.app N2 Nq3
  show Go _ _ _ _ _ _ _ (T3.setTop (mkF m 33 #[.val (.ref a), .val (.int (1 : Int32)), .val (.int (0 : Int32))] [(.int (own_ch (gd 0)))]))
  refine Go.of (fun _ q => XS.bipush X3.here hx rfl (hb hby d9_33) q) ?_
  show Go _ _ _ _ _ _ _ (T3.setTop (mkF m 35 #[.val (.ref a), .val (.int (1 : Int32)), .val (.int (0 : Int32))] [(.int (65 : Int32)), (.int (own_ch (gd 0)))]))
  by_cases c35 : (own_ch (gd 0)) < (65 : Int32)
  · refine Go.of (fun _ q => XS.icmpYes X3.here hx rfl (pc0 := 35) (pc' := 52) rfl (hb hby d9_35) rfl (tlt c35).1 (by decide) (by decide) q) ?_
    show Go _ _ _ _ _ _ _ (T3.setTop (mkF m 52 #[.val (.ref a), .val (.int (1 : Int32)), .val (.int (0 : Int32))] []))
    refine Go.of (fun _ q => XS.iconst X3.here hx rfl (hb hby d9_52) q) ?_
    show Go _ _ _ _ _ _ _ (T3.setTop (mkF m 53 #[.val (.ref a), .val (.int (1 : Int32)), .val (.int (0 : Int32))] [(.int (0 : Int32))]))
    refine Go.of (fun _ q => XS.istoreN X3.here hx rfl (hb hby d9_53) rfl (l' := #[.val (.ref a), .val (.int (0 : Int32)), .val (.int (0 : Int32))]) rfl q) ?_
    show Go _ _ _ _ _ _ _ (T3.setTop (mkF m 54 #[.val (.ref a), .val (.int (0 : Int32)), .val (.int (0 : Int32))] []))
    refine Go.of (fun _ q => XS.iinc X3.here hx rfl (hb hby d9_54) rfl (l' := #[.val (.ref a), .val (.int (0 : Int32)), .val (.int (1 : Int32))]) rfl q) ?_
    show Go _ _ _ _ _ _ _ (T3.setTop (mkF m 57 #[.val (.ref a), .val (.int (0 : Int32)), .val (.int (1 : Int32))] []))
    refine Go.of (fun _ q => XS.goto X3.here hx rfl (pc0 := 57) (pc' := 16) rfl (hb hby d9_57) (by decide) (by decide) q) ?_
    show Go _ _ _ _ _ _ _ (T3.setTop (mkF m 16 #[.val (.ref a), .val (.int (0 : Int32)), .val (.int (1 : Int32))] []))
    refine Go.of (fun _ q => XS.iloadN X3.here hx rfl (hb hby d9_16) rfl q) ?_
    show Go _ _ _ _ _ _ _ (T3.setTop (mkF m 17 #[.val (.ref a), .val (.int (0 : Int32)), .val (.int (1 : Int32))] [(.int (1 : Int32))]))
    refine Go.of (fun _ q => XS.aloadN X3.here hx rfl (hb hby d9_17) rfl rfl q) ?_
    show Go _ _ _ _ _ _ _ (T3.setTop (mkF m 18 #[.val (.ref a), .val (.int (0 : Int32)), .val (.int (1 : Int32))] [(.ref a), (.int (1 : Int32))]))
    refine Go.virtual X3 hx hZ (y := (⟨"java/lang/String", "length", "()I"⟩ : MethodName)) (z := (⟨"java/lang/String", "length", "()I"⟩ : MethodName)) (a := a) (argsL := []) hown (hw _ (List.mem_of_getElem? (i := 42) rfl)) (hw _ (List.mem_of_getElem? (i := 43) rfl)) (notFace_of_selects (args := #[]) (mvT hZ (hw _ (List.mem_of_getElem? (i := 45) rfl)))) (hw _ (List.mem_of_getElem? (i := 45) rfl)) (hw _ (List.mem_of_getElem? (i := 44) rfl)) (hw _ (List.mem_of_getElem? (i := 7) rfl)) (hw _ (List.mem_of_getElem? (i := 46) rfl)) (by decide) 1 e3 E_a (rm10_3 l Z a0 hw a d kd gd cs h0 n0 Zs Od E_a F_a_value F_a_coder A_d Scs hcs) (by decide) (by decide) (by decide) (by decide) (g := (mkF m 18 #[.val (.ref a), .val (.int (0 : Int32)), .val (.int (1 : Int32))] [(.ref a), (.int (1 : Int32))])) rfl (by rw [hml]; rfl) (rest := [(.int (1 : Int32))]) (lenOf pd5 rfl) rfl (by show 2 * 0 + _ ≤ _; exact Nat.le_of_eq rfl) (hb hby d9_18) ?_
    intro T4 v4 L4 X4 q4
    obtain ⟨rfl, Nq4, e4⟩ := q4
    have N4 := Fr.app N3 Nq4
    show Go _ _ _ _ _ _ _ (T4.setTop (mkF m 21 #[.val (.ref a), .val (.int (0 : Int32)), .val (.int (1 : Int32))] [(.int (3 : Int32)), (.int (1 : Int32))]))
    refine Go.of (fun _ q => XS.icmpNo X4.here hx rfl (hb hby d9_21) rfl (tlt (by decide)).2.1 q) ?_
    show Go _ _ _ _ _ _ _ (T4.setTop (mkF m 24 #[.val (.ref a), .val (.int (0 : Int32)), .val (.int (1 : Int32))] []))
    refine Go.of (fun _ q => XS.iloadN X4.here hx rfl (hb hby d9_24) rfl q) ?_
    show Go _ _ _ _ _ _ _ (T4.setTop (mkF m 25 #[.val (.ref a), .val (.int (0 : Int32)), .val (.int (1 : Int32))] [(.int (0 : Int32))]))
    refine Go.of (fun _ q => XS.ifYes X4.here hx rfl (pc0 := 25) (pc' := 60) rfl (hb hby d9_25) rfl ((if0 _ _).trans (teq rfl).1) (by decide) (by decide) q) ?_
    show Go _ _ _ _ _ _ _ (T4.setTop (mkF m 60 #[.val (.ref a), .val (.int (0 : Int32)), .val (.int (1 : Int32))] []))
    refine Go.of (fun _ q => XS.iloadN X4.here hx rfl (hb hby d9_60) rfl q) ?_
    show Go _ _ _ _ _ _ _ (T4.setTop (mkF m 61 #[.val (.ref a), .val (.int (0 : Int32)), .val (.int (1 : Int32))] [(.int (0 : Int32))]))
    refine Go.retN X4 hx hlk (t := .boolean) hret (by simp) (hb hby d9_61) rfl (by decide) (by decide) ?_
    rw [e4]
    exact ⟨(by unfold own_cur; rw [if_pos c35]), N4, rfl⟩
  · refine Go.of (fun _ q => XS.icmpNo X3.here hx rfl (hb hby d9_35) rfl (flt c35).1 q) ?_
    show Go _ _ _ _ _ _ _ (T3.setTop (mkF m 38 #[.val (.ref a), .val (.int (1 : Int32)), .val (.int (0 : Int32))] []))
    refine Go.of (fun _ q => XS.aloadN X3.here hx rfl (hb hby d9_38) rfl rfl q) ?_
    show Go _ _ _ _ _ _ _ (T3.setTop (mkF m 39 #[.val (.ref a), .val (.int (1 : Int32)), .val (.int (0 : Int32))] [(.ref a)]))
    refine Go.of (fun _ q => XS.iloadN X3.here hx rfl (hb hby d9_39) rfl q) ?_
    show Go _ _ _ _ _ _ _ (T3.setTop (mkF m 40 #[.val (.ref a), .val (.int (1 : Int32)), .val (.int (0 : Int32))] [(.int (0 : Int32)), (.ref a)]))
    refine Go.virtual X3 hx hZ (y := (⟨"java/lang/String", "charAt", "(I)C"⟩ : MethodName)) (z := (⟨"java/lang/String", "charAt", "(I)C"⟩ : MethodName)) (a := a) (argsL := [(.int (0 : Int32))]) hown (hw _ (List.mem_of_getElem? (i := 52) rfl)) (hw _ (List.mem_of_getElem? (i := 53) rfl)) (notFace_of_selects (args := #[]) (mvT hZ (hw _ (List.mem_of_getElem? (i := 55) rfl)))) (hw _ (List.mem_of_getElem? (i := 55) rfl)) (hw _ (List.mem_of_getElem? (i := 54) rfl)) (hw _ (List.mem_of_getElem? (i := 7) rfl)) (hw _ (List.mem_of_getElem? (i := 56) rfl)) (by decide) 0 e3 E_a (rm12_i0 l Z a0 hw a d kd gd fm hfm cs h0 n0 Zs Od E_a F_a_value F_a_coder A_d Sfm Scs hcs) (by decide) (by decide) (by decide) (by decide) (g := (mkF m 40 #[.val (.ref a), .val (.int (1 : Int32)), .val (.int (0 : Int32))] [(.int (0 : Int32)), (.ref a)])) rfl (by rw [hml]; rfl) (rest := []) (lenOf pd6 rfl) rfl (by show 2 * 0 + _ ≤ _; exact Nat.le_of_eq rfl) (hb hby d9_40) ?_
    intro T5 v5 L5 X5 q5
    obtain ⟨rfl, Nq5, e5⟩ := q5
    have N5 := Fr.app N3 Nq5
    show Go _ _ _ _ _ _ _ (T5.setTop (mkF m 43 #[.val (.ref a), .val (.int (1 : Int32)), .val (.int (0 : Int32))] [(.int (own_ch (gd 0)))]))
    refine Go.of (fun _ q => XS.bipush X5.here hx rfl (hb hby d9_43) q) ?_
    show Go _ _ _ _ _ _ _ (T5.setTop (mkF m 45 #[.val (.ref a), .val (.int (1 : Int32)), .val (.int (0 : Int32))] [(.int (90 : Int32)), (.int (own_ch (gd 0)))]))
    by_cases c45 : (90 : Int32) < (own_ch (gd 0))
    · refine Go.of (fun _ q => XS.icmpYes X5.here hx rfl (pc0 := 45) (pc' := 52) rfl (hb hby d9_45) rfl (tlt c45).2.2.1 (by decide) (by decide) q) ?_
      show Go _ _ _ _ _ _ _ (T5.setTop (mkF m 52 #[.val (.ref a), .val (.int (1 : Int32)), .val (.int (0 : Int32))] []))
      refine Go.of (fun _ q => XS.iconst X5.here hx rfl (hb hby d9_52) q) ?_
      show Go _ _ _ _ _ _ _ (T5.setTop (mkF m 53 #[.val (.ref a), .val (.int (1 : Int32)), .val (.int (0 : Int32))] [(.int (0 : Int32))]))
      refine Go.of (fun _ q => XS.istoreN X5.here hx rfl (hb hby d9_53) rfl (l' := #[.val (.ref a), .val (.int (0 : Int32)), .val (.int (0 : Int32))]) rfl q) ?_
      show Go _ _ _ _ _ _ _ (T5.setTop (mkF m 54 #[.val (.ref a), .val (.int (0 : Int32)), .val (.int (0 : Int32))] []))
      refine Go.of (fun _ q => XS.iinc X5.here hx rfl (hb hby d9_54) rfl (l' := #[.val (.ref a), .val (.int (0 : Int32)), .val (.int (1 : Int32))]) rfl q) ?_
      show Go _ _ _ _ _ _ _ (T5.setTop (mkF m 57 #[.val (.ref a), .val (.int (0 : Int32)), .val (.int (1 : Int32))] []))
      refine Go.of (fun _ q => XS.goto X5.here hx rfl (pc0 := 57) (pc' := 16) rfl (hb hby d9_57) (by decide) (by decide) q) ?_
      show Go _ _ _ _ _ _ _ (T5.setTop (mkF m 16 #[.val (.ref a), .val (.int (0 : Int32)), .val (.int (1 : Int32))] []))
      refine Go.of (fun _ q => XS.iloadN X5.here hx rfl (hb hby d9_16) rfl q) ?_
      show Go _ _ _ _ _ _ _ (T5.setTop (mkF m 17 #[.val (.ref a), .val (.int (0 : Int32)), .val (.int (1 : Int32))] [(.int (1 : Int32))]))
      refine Go.of (fun _ q => XS.aloadN X5.here hx rfl (hb hby d9_17) rfl rfl q) ?_
      show Go _ _ _ _ _ _ _ (T5.setTop (mkF m 18 #[.val (.ref a), .val (.int (0 : Int32)), .val (.int (1 : Int32))] [(.ref a), (.int (1 : Int32))]))
      refine Go.virtual X5 hx hZ (y := (⟨"java/lang/String", "length", "()I"⟩ : MethodName)) (z := (⟨"java/lang/String", "length", "()I"⟩ : MethodName)) (a := a) (argsL := []) hown (hw _ (List.mem_of_getElem? (i := 42) rfl)) (hw _ (List.mem_of_getElem? (i := 43) rfl)) (notFace_of_selects (args := #[]) (mvT hZ (hw _ (List.mem_of_getElem? (i := 45) rfl)))) (hw _ (List.mem_of_getElem? (i := 45) rfl)) (hw _ (List.mem_of_getElem? (i := 44) rfl)) (hw _ (List.mem_of_getElem? (i := 7) rfl)) (hw _ (List.mem_of_getElem? (i := 46) rfl)) (by decide) 1 e5 E_a (rm10_3 l Z a0 hw a d kd gd cs h0 n0 Zs Od E_a F_a_value F_a_coder A_d Scs hcs) (by decide) (by decide) (by decide) (by decide) (g := (mkF m 18 #[.val (.ref a), .val (.int (0 : Int32)), .val (.int (1 : Int32))] [(.ref a), (.int (1 : Int32))])) rfl (by rw [hml]; rfl) (rest := [(.int (1 : Int32))]) (lenOf pd5 rfl) rfl (by show 2 * 0 + _ ≤ _; exact Nat.le_of_eq rfl) (hb hby d9_18) ?_
      intro T6 v6 L6 X6 q6
      obtain ⟨rfl, Nq6, e6⟩ := q6
      have N6 := Fr.app N5 Nq6
      show Go _ _ _ _ _ _ _ (T6.setTop (mkF m 21 #[.val (.ref a), .val (.int (0 : Int32)), .val (.int (1 : Int32))] [(.int (3 : Int32)), (.int (1 : Int32))]))
      refine Go.of (fun _ q => XS.icmpNo X6.here hx rfl (hb hby d9_21) rfl (tlt (by decide)).2.1 q) ?_
      show Go _ _ _ _ _ _ _ (T6.setTop (mkF m 24 #[.val (.ref a), .val (.int (0 : Int32)), .val (.int (1 : Int32))] []))
      refine Go.of (fun _ q => XS.iloadN X6.here hx rfl (hb hby d9_24) rfl q) ?_
      show Go _ _ _ _ _ _ _ (T6.setTop (mkF m 25 #[.val (.ref a), .val (.int (0 : Int32)), .val (.int (1 : Int32))] [(.int (0 : Int32))]))
      refine Go.of (fun _ q => XS.ifYes X6.here hx rfl (pc0 := 25) (pc' := 60) rfl (hb hby d9_25) rfl ((if0 _ _).trans (teq rfl).1) (by decide) (by decide) q) ?_
      show Go _ _ _ _ _ _ _ (T6.setTop (mkF m 60 #[.val (.ref a), .val (.int (0 : Int32)), .val (.int (1 : Int32))] []))
      refine Go.of (fun _ q => XS.iloadN X6.here hx rfl (hb hby d9_60) rfl q) ?_
      show Go _ _ _ _ _ _ _ (T6.setTop (mkF m 61 #[.val (.ref a), .val (.int (0 : Int32)), .val (.int (1 : Int32))] [(.int (0 : Int32))]))
      refine Go.retN X6 hx hlk (t := .boolean) hret (by simp) (hb hby d9_61) rfl (by decide) (by decide) ?_
      rw [e6]
      exact ⟨(by unfold own_cur; rw [if_neg c35, if_pos c45]), N6, rfl⟩
    · refine Go.of (fun _ q => XS.icmpNo X5.here hx rfl (hb hby d9_45) rfl (flt c45).2.2.1 q) ?_
      show Go _ _ _ _ _ _ _ (T5.setTop (mkF m 48 #[.val (.ref a), .val (.int (1 : Int32)), .val (.int (0 : Int32))] []))
      refine Go.of (fun _ q => XS.iconst X5.here hx rfl (hb hby d9_48) q) ?_
      show Go _ _ _ _ _ _ _ (T5.setTop (mkF m 49 #[.val (.ref a), .val (.int (1 : Int32)), .val (.int (0 : Int32))] [(.int (1 : Int32))]))
      refine Go.of (fun _ q => XS.goto X5.here hx rfl (pc0 := 49) (pc' := 53) rfl (hb hby d9_49) (by decide) (by decide) q) ?_
      show Go _ _ _ _ _ _ _ (T5.setTop (mkF m 53 #[.val (.ref a), .val (.int (1 : Int32)), .val (.int (0 : Int32))] [(.int (1 : Int32))]))
      refine Go.of (fun _ q => XS.istoreN X5.here hx rfl (hb hby d9_53) rfl (l' := #[.val (.ref a), .val (.int (1 : Int32)), .val (.int (0 : Int32))]) rfl q) ?_
      show Go _ _ _ _ _ _ _ (T5.setTop (mkF m 54 #[.val (.ref a), .val (.int (1 : Int32)), .val (.int (0 : Int32))] []))
      refine Go.of (fun _ q => XS.iinc X5.here hx rfl (hb hby d9_54) rfl (l' := #[.val (.ref a), .val (.int (1 : Int32)), .val (.int (1 : Int32))]) rfl q) ?_
      show Go _ _ _ _ _ _ _ (T5.setTop (mkF m 57 #[.val (.ref a), .val (.int (1 : Int32)), .val (.int (1 : Int32))] []))
      refine Go.of (fun _ q => XS.goto X5.here hx rfl (pc0 := 57) (pc' := 16) rfl (hb hby d9_57) (by decide) (by decide) q) ?_
      show Go _ _ _ _ _ _ _ (T5.setTop (mkF m 16 #[.val (.ref a), .val (.int (1 : Int32)), .val (.int (1 : Int32))] []))
      refine Go.of (fun _ q => XS.iloadN X5.here hx rfl (hb hby d9_16) rfl q) ?_
      show Go _ _ _ _ _ _ _ (T5.setTop (mkF m 17 #[.val (.ref a), .val (.int (1 : Int32)), .val (.int (1 : Int32))] [(.int (1 : Int32))]))
      refine Go.of (fun _ q => XS.aloadN X5.here hx rfl (hb hby d9_17) rfl rfl q) ?_
      show Go _ _ _ _ _ _ _ (T5.setTop (mkF m 18 #[.val (.ref a), .val (.int (1 : Int32)), .val (.int (1 : Int32))] [(.ref a), (.int (1 : Int32))]))
      refine Go.virtual X5 hx hZ (y := (⟨"java/lang/String", "length", "()I"⟩ : MethodName)) (z := (⟨"java/lang/String", "length", "()I"⟩ : MethodName)) (a := a) (argsL := []) hown (hw _ (List.mem_of_getElem? (i := 42) rfl)) (hw _ (List.mem_of_getElem? (i := 43) rfl)) (notFace_of_selects (args := #[]) (mvT hZ (hw _ (List.mem_of_getElem? (i := 45) rfl)))) (hw _ (List.mem_of_getElem? (i := 45) rfl)) (hw _ (List.mem_of_getElem? (i := 44) rfl)) (hw _ (List.mem_of_getElem? (i := 7) rfl)) (hw _ (List.mem_of_getElem? (i := 46) rfl)) (by decide) 1 e5 E_a (rm10_3 l Z a0 hw a d kd gd cs h0 n0 Zs Od E_a F_a_value F_a_coder A_d Scs hcs) (by decide) (by decide) (by decide) (by decide) (g := (mkF m 18 #[.val (.ref a), .val (.int (1 : Int32)), .val (.int (1 : Int32))] [(.ref a), (.int (1 : Int32))])) rfl (by rw [hml]; rfl) (rest := [(.int (1 : Int32))]) (lenOf pd5 rfl) rfl (by show 2 * 0 + _ ≤ _; exact Nat.le_of_eq rfl) (hb hby d9_18) ?_
      intro T7 v7 L7 X7 q7
      obtain ⟨rfl, Nq7, e7⟩ := q7
      have N7 := Fr.app N5 Nq7
      show Go _ _ _ _ _ _ _ (T7.setTop (mkF m 21 #[.val (.ref a), .val (.int (1 : Int32)), .val (.int (1 : Int32))] [(.int (3 : Int32)), (.int (1 : Int32))]))
      refine Go.of (fun _ q => XS.icmpNo X7.here hx rfl (hb hby d9_21) rfl (tlt (by decide)).2.1 q) ?_
      show Go _ _ _ _ _ _ _ (T7.setTop (mkF m 24 #[.val (.ref a), .val (.int (1 : Int32)), .val (.int (1 : Int32))] []))
      refine Go.of (fun _ q => XS.iloadN X7.here hx rfl (hb hby d9_24) rfl q) ?_
      show Go _ _ _ _ _ _ _ (T7.setTop (mkF m 25 #[.val (.ref a), .val (.int (1 : Int32)), .val (.int (1 : Int32))] [(.int (1 : Int32))]))
      refine Go.of (fun _ q => XS.ifNo X7.here hx rfl (hb hby d9_25) rfl ((if0 _ _).trans (feq (by decide)).1) q) ?_
      show Go _ _ _ _ _ _ _ (T7.setTop (mkF m 28 #[.val (.ref a), .val (.int (1 : Int32)), .val (.int (1 : Int32))] []))
      refine Go.of (fun _ q => XS.aloadN X7.here hx rfl (hb hby d9_28) rfl rfl q) ?_
      show Go _ _ _ _ _ _ _ (T7.setTop (mkF m 29 #[.val (.ref a), .val (.int (1 : Int32)), .val (.int (1 : Int32))] [(.ref a)]))
      refine Go.of (fun _ q => XS.iloadN X7.here hx rfl (hb hby d9_29) rfl q) ?_
      show Go _ _ _ _ _ _ _ (T7.setTop (mkF m 30 #[.val (.ref a), .val (.int (1 : Int32)), .val (.int (1 : Int32))] [(.int (1 : Int32)), (.ref a)]))
      refine Go.virtual X7 hx hZ (y := (⟨"java/lang/String", "charAt", "(I)C"⟩ : MethodName)) (z := (⟨"java/lang/String", "charAt", "(I)C"⟩ : MethodName)) (a := a) (argsL := [(.int (1 : Int32))]) hown (hw _ (List.mem_of_getElem? (i := 52) rfl)) (hw _ (List.mem_of_getElem? (i := 53) rfl)) (notFace_of_selects (args := #[]) (mvT hZ (hw _ (List.mem_of_getElem? (i := 55) rfl)))) (hw _ (List.mem_of_getElem? (i := 55) rfl)) (hw _ (List.mem_of_getElem? (i := 54) rfl)) (hw _ (List.mem_of_getElem? (i := 7) rfl)) (hw _ (List.mem_of_getElem? (i := 56) rfl)) (by decide) 0 e7 E_a (rm12_i1 l Z a0 hw a d kd gd fm hfm cs h0 n0 Zs Od E_a F_a_value F_a_coder A_d Sfm Scs hcs) (by decide) (by decide) (by decide) (by decide) (g := (mkF m 30 #[.val (.ref a), .val (.int (1 : Int32)), .val (.int (1 : Int32))] [(.int (1 : Int32)), (.ref a)])) rfl (by rw [hml]; rfl) (rest := []) (lenOf pd6 rfl) rfl (by show 2 * 0 + _ ≤ _; exact Nat.le_of_eq rfl) (hb hby d9_30) ?_
      intro T8 v8 L8 X8 q8
      obtain ⟨rfl, Nq8, e8⟩ := q8
      have N8 := Fr.app N7 Nq8
      show Go _ _ _ _ _ _ _ (T8.setTop (mkF m 33 #[.val (.ref a), .val (.int (1 : Int32)), .val (.int (1 : Int32))] [(.int (own_ch (gd 1)))]))
      refine Go.of (fun _ q => XS.bipush X8.here hx rfl (hb hby d9_33) q) ?_
      show Go _ _ _ _ _ _ _ (T8.setTop (mkF m 35 #[.val (.ref a), .val (.int (1 : Int32)), .val (.int (1 : Int32))] [(.int (65 : Int32)), (.int (own_ch (gd 1)))]))
      by_cases c35_1 : (own_ch (gd 1)) < (65 : Int32)
      · refine Go.of (fun _ q => XS.icmpYes X8.here hx rfl (pc0 := 35) (pc' := 52) rfl (hb hby d9_35) rfl (tlt c35_1).1 (by decide) (by decide) q) ?_
        show Go _ _ _ _ _ _ _ (T8.setTop (mkF m 52 #[.val (.ref a), .val (.int (1 : Int32)), .val (.int (1 : Int32))] []))
        refine Go.of (fun _ q => XS.iconst X8.here hx rfl (hb hby d9_52) q) ?_
        show Go _ _ _ _ _ _ _ (T8.setTop (mkF m 53 #[.val (.ref a), .val (.int (1 : Int32)), .val (.int (1 : Int32))] [(.int (0 : Int32))]))
        refine Go.of (fun _ q => XS.istoreN X8.here hx rfl (hb hby d9_53) rfl (l' := #[.val (.ref a), .val (.int (0 : Int32)), .val (.int (1 : Int32))]) rfl q) ?_
        show Go _ _ _ _ _ _ _ (T8.setTop (mkF m 54 #[.val (.ref a), .val (.int (0 : Int32)), .val (.int (1 : Int32))] []))
        refine Go.of (fun _ q => XS.iinc X8.here hx rfl (hb hby d9_54) rfl (l' := #[.val (.ref a), .val (.int (0 : Int32)), .val (.int (2 : Int32))]) rfl q) ?_
        show Go _ _ _ _ _ _ _ (T8.setTop (mkF m 57 #[.val (.ref a), .val (.int (0 : Int32)), .val (.int (2 : Int32))] []))
        refine Go.of (fun _ q => XS.goto X8.here hx rfl (pc0 := 57) (pc' := 16) rfl (hb hby d9_57) (by decide) (by decide) q) ?_
        show Go _ _ _ _ _ _ _ (T8.setTop (mkF m 16 #[.val (.ref a), .val (.int (0 : Int32)), .val (.int (2 : Int32))] []))
        refine Go.of (fun _ q => XS.iloadN X8.here hx rfl (hb hby d9_16) rfl q) ?_
        show Go _ _ _ _ _ _ _ (T8.setTop (mkF m 17 #[.val (.ref a), .val (.int (0 : Int32)), .val (.int (2 : Int32))] [(.int (2 : Int32))]))
        refine Go.of (fun _ q => XS.aloadN X8.here hx rfl (hb hby d9_17) rfl rfl q) ?_
        show Go _ _ _ _ _ _ _ (T8.setTop (mkF m 18 #[.val (.ref a), .val (.int (0 : Int32)), .val (.int (2 : Int32))] [(.ref a), (.int (2 : Int32))]))
        refine Go.virtual X8 hx hZ (y := (⟨"java/lang/String", "length", "()I"⟩ : MethodName)) (z := (⟨"java/lang/String", "length", "()I"⟩ : MethodName)) (a := a) (argsL := []) hown (hw _ (List.mem_of_getElem? (i := 42) rfl)) (hw _ (List.mem_of_getElem? (i := 43) rfl)) (notFace_of_selects (args := #[]) (mvT hZ (hw _ (List.mem_of_getElem? (i := 45) rfl)))) (hw _ (List.mem_of_getElem? (i := 45) rfl)) (hw _ (List.mem_of_getElem? (i := 44) rfl)) (hw _ (List.mem_of_getElem? (i := 7) rfl)) (hw _ (List.mem_of_getElem? (i := 46) rfl)) (by decide) 1 e8 E_a (rm10_3 l Z a0 hw a d kd gd cs h0 n0 Zs Od E_a F_a_value F_a_coder A_d Scs hcs) (by decide) (by decide) (by decide) (by decide) (g := (mkF m 18 #[.val (.ref a), .val (.int (0 : Int32)), .val (.int (2 : Int32))] [(.ref a), (.int (2 : Int32))])) rfl (by rw [hml]; rfl) (rest := [(.int (2 : Int32))]) (lenOf pd5 rfl) rfl (by show 2 * 0 + _ ≤ _; exact Nat.le_of_eq rfl) (hb hby d9_18) ?_
        intro T9 v9 L9 X9 q9
        obtain ⟨rfl, Nq9, e9⟩ := q9
        have N9 := Fr.app N8 Nq9
        show Go _ _ _ _ _ _ _ (T9.setTop (mkF m 21 #[.val (.ref a), .val (.int (0 : Int32)), .val (.int (2 : Int32))] [(.int (3 : Int32)), (.int (2 : Int32))]))
        refine Go.of (fun _ q => XS.icmpNo X9.here hx rfl (hb hby d9_21) rfl (tlt (by decide)).2.1 q) ?_
        show Go _ _ _ _ _ _ _ (T9.setTop (mkF m 24 #[.val (.ref a), .val (.int (0 : Int32)), .val (.int (2 : Int32))] []))
        refine Go.of (fun _ q => XS.iloadN X9.here hx rfl (hb hby d9_24) rfl q) ?_
        show Go _ _ _ _ _ _ _ (T9.setTop (mkF m 25 #[.val (.ref a), .val (.int (0 : Int32)), .val (.int (2 : Int32))] [(.int (0 : Int32))]))
        refine Go.of (fun _ q => XS.ifYes X9.here hx rfl (pc0 := 25) (pc' := 60) rfl (hb hby d9_25) rfl ((if0 _ _).trans (teq rfl).1) (by decide) (by decide) q) ?_
        show Go _ _ _ _ _ _ _ (T9.setTop (mkF m 60 #[.val (.ref a), .val (.int (0 : Int32)), .val (.int (2 : Int32))] []))
        refine Go.of (fun _ q => XS.iloadN X9.here hx rfl (hb hby d9_60) rfl q) ?_
        show Go _ _ _ _ _ _ _ (T9.setTop (mkF m 61 #[.val (.ref a), .val (.int (0 : Int32)), .val (.int (2 : Int32))] [(.int (0 : Int32))]))
        refine Go.retN X9 hx hlk (t := .boolean) hret (by simp) (hb hby d9_61) rfl (by decide) (by decide) ?_
        rw [e9]
        exact ⟨(by unfold own_cur; rw [if_neg c35, if_neg c45, if_pos c35_1]), N9, rfl⟩
      · refine Go.of (fun _ q => XS.icmpNo X8.here hx rfl (hb hby d9_35) rfl (flt c35_1).1 q) ?_
        show Go _ _ _ _ _ _ _ (T8.setTop (mkF m 38 #[.val (.ref a), .val (.int (1 : Int32)), .val (.int (1 : Int32))] []))
        refine Go.of (fun _ q => XS.aloadN X8.here hx rfl (hb hby d9_38) rfl rfl q) ?_
        show Go _ _ _ _ _ _ _ (T8.setTop (mkF m 39 #[.val (.ref a), .val (.int (1 : Int32)), .val (.int (1 : Int32))] [(.ref a)]))
        refine Go.of (fun _ q => XS.iloadN X8.here hx rfl (hb hby d9_39) rfl q) ?_
        show Go _ _ _ _ _ _ _ (T8.setTop (mkF m 40 #[.val (.ref a), .val (.int (1 : Int32)), .val (.int (1 : Int32))] [(.int (1 : Int32)), (.ref a)]))
        refine Go.virtual X8 hx hZ (y := (⟨"java/lang/String", "charAt", "(I)C"⟩ : MethodName)) (z := (⟨"java/lang/String", "charAt", "(I)C"⟩ : MethodName)) (a := a) (argsL := [(.int (1 : Int32))]) hown (hw _ (List.mem_of_getElem? (i := 52) rfl)) (hw _ (List.mem_of_getElem? (i := 53) rfl)) (notFace_of_selects (args := #[]) (mvT hZ (hw _ (List.mem_of_getElem? (i := 55) rfl)))) (hw _ (List.mem_of_getElem? (i := 55) rfl)) (hw _ (List.mem_of_getElem? (i := 54) rfl)) (hw _ (List.mem_of_getElem? (i := 7) rfl)) (hw _ (List.mem_of_getElem? (i := 56) rfl)) (by decide) 0 e8 E_a (rm12_i1 l Z a0 hw a d kd gd fm hfm cs h0 n0 Zs Od E_a F_a_value F_a_coder A_d Sfm Scs hcs) (by decide) (by decide) (by decide) (by decide) (g := (mkF m 40 #[.val (.ref a), .val (.int (1 : Int32)), .val (.int (1 : Int32))] [(.int (1 : Int32)), (.ref a)])) rfl (by rw [hml]; rfl) (rest := []) (lenOf pd6 rfl) rfl (by show 2 * 0 + _ ≤ _; exact Nat.le_of_eq rfl) (hb hby d9_40) ?_
        intro T10 v10 L10 X10 q10
        obtain ⟨rfl, Nq10, e10⟩ := q10
        have N10 := Fr.app N8 Nq10
        show Go _ _ _ _ _ _ _ (T10.setTop (mkF m 43 #[.val (.ref a), .val (.int (1 : Int32)), .val (.int (1 : Int32))] [(.int (own_ch (gd 1)))]))
        refine Go.of (fun _ q => XS.bipush X10.here hx rfl (hb hby d9_43) q) ?_
        show Go _ _ _ _ _ _ _ (T10.setTop (mkF m 45 #[.val (.ref a), .val (.int (1 : Int32)), .val (.int (1 : Int32))] [(.int (90 : Int32)), (.int (own_ch (gd 1)))]))
        by_cases c45_1 : (90 : Int32) < (own_ch (gd 1))
        · refine Go.of (fun _ q => XS.icmpYes X10.here hx rfl (pc0 := 45) (pc' := 52) rfl (hb hby d9_45) rfl (tlt c45_1).2.2.1 (by decide) (by decide) q) ?_
          show Go _ _ _ _ _ _ _ (T10.setTop (mkF m 52 #[.val (.ref a), .val (.int (1 : Int32)), .val (.int (1 : Int32))] []))
          refine Go.of (fun _ q => XS.iconst X10.here hx rfl (hb hby d9_52) q) ?_
          show Go _ _ _ _ _ _ _ (T10.setTop (mkF m 53 #[.val (.ref a), .val (.int (1 : Int32)), .val (.int (1 : Int32))] [(.int (0 : Int32))]))
          refine Go.of (fun _ q => XS.istoreN X10.here hx rfl (hb hby d9_53) rfl (l' := #[.val (.ref a), .val (.int (0 : Int32)), .val (.int (1 : Int32))]) rfl q) ?_
          show Go _ _ _ _ _ _ _ (T10.setTop (mkF m 54 #[.val (.ref a), .val (.int (0 : Int32)), .val (.int (1 : Int32))] []))
          refine Go.of (fun _ q => XS.iinc X10.here hx rfl (hb hby d9_54) rfl (l' := #[.val (.ref a), .val (.int (0 : Int32)), .val (.int (2 : Int32))]) rfl q) ?_
          show Go _ _ _ _ _ _ _ (T10.setTop (mkF m 57 #[.val (.ref a), .val (.int (0 : Int32)), .val (.int (2 : Int32))] []))
          refine Go.of (fun _ q => XS.goto X10.here hx rfl (pc0 := 57) (pc' := 16) rfl (hb hby d9_57) (by decide) (by decide) q) ?_
          show Go _ _ _ _ _ _ _ (T10.setTop (mkF m 16 #[.val (.ref a), .val (.int (0 : Int32)), .val (.int (2 : Int32))] []))
          refine Go.of (fun _ q => XS.iloadN X10.here hx rfl (hb hby d9_16) rfl q) ?_
          show Go _ _ _ _ _ _ _ (T10.setTop (mkF m 17 #[.val (.ref a), .val (.int (0 : Int32)), .val (.int (2 : Int32))] [(.int (2 : Int32))]))
          refine Go.of (fun _ q => XS.aloadN X10.here hx rfl (hb hby d9_17) rfl rfl q) ?_
          show Go _ _ _ _ _ _ _ (T10.setTop (mkF m 18 #[.val (.ref a), .val (.int (0 : Int32)), .val (.int (2 : Int32))] [(.ref a), (.int (2 : Int32))]))
          refine Go.virtual X10 hx hZ (y := (⟨"java/lang/String", "length", "()I"⟩ : MethodName)) (z := (⟨"java/lang/String", "length", "()I"⟩ : MethodName)) (a := a) (argsL := []) hown (hw _ (List.mem_of_getElem? (i := 42) rfl)) (hw _ (List.mem_of_getElem? (i := 43) rfl)) (notFace_of_selects (args := #[]) (mvT hZ (hw _ (List.mem_of_getElem? (i := 45) rfl)))) (hw _ (List.mem_of_getElem? (i := 45) rfl)) (hw _ (List.mem_of_getElem? (i := 44) rfl)) (hw _ (List.mem_of_getElem? (i := 7) rfl)) (hw _ (List.mem_of_getElem? (i := 46) rfl)) (by decide) 1 e10 E_a (rm10_3 l Z a0 hw a d kd gd cs h0 n0 Zs Od E_a F_a_value F_a_coder A_d Scs hcs) (by decide) (by decide) (by decide) (by decide) (g := (mkF m 18 #[.val (.ref a), .val (.int (0 : Int32)), .val (.int (2 : Int32))] [(.ref a), (.int (2 : Int32))])) rfl (by rw [hml]; rfl) (rest := [(.int (2 : Int32))]) (lenOf pd5 rfl) rfl (by show 2 * 0 + _ ≤ _; exact Nat.le_of_eq rfl) (hb hby d9_18) ?_
          intro T11 v11 L11 X11 q11
          obtain ⟨rfl, Nq11, e11⟩ := q11
          have N11 := Fr.app N10 Nq11
          show Go _ _ _ _ _ _ _ (T11.setTop (mkF m 21 #[.val (.ref a), .val (.int (0 : Int32)), .val (.int (2 : Int32))] [(.int (3 : Int32)), (.int (2 : Int32))]))
          refine Go.of (fun _ q => XS.icmpNo X11.here hx rfl (hb hby d9_21) rfl (tlt (by decide)).2.1 q) ?_
          show Go _ _ _ _ _ _ _ (T11.setTop (mkF m 24 #[.val (.ref a), .val (.int (0 : Int32)), .val (.int (2 : Int32))] []))
          refine Go.of (fun _ q => XS.iloadN X11.here hx rfl (hb hby d9_24) rfl q) ?_
          show Go _ _ _ _ _ _ _ (T11.setTop (mkF m 25 #[.val (.ref a), .val (.int (0 : Int32)), .val (.int (2 : Int32))] [(.int (0 : Int32))]))
          refine Go.of (fun _ q => XS.ifYes X11.here hx rfl (pc0 := 25) (pc' := 60) rfl (hb hby d9_25) rfl ((if0 _ _).trans (teq rfl).1) (by decide) (by decide) q) ?_
          show Go _ _ _ _ _ _ _ (T11.setTop (mkF m 60 #[.val (.ref a), .val (.int (0 : Int32)), .val (.int (2 : Int32))] []))
          refine Go.of (fun _ q => XS.iloadN X11.here hx rfl (hb hby d9_60) rfl q) ?_
          show Go _ _ _ _ _ _ _ (T11.setTop (mkF m 61 #[.val (.ref a), .val (.int (0 : Int32)), .val (.int (2 : Int32))] [(.int (0 : Int32))]))
          refine Go.retN X11 hx hlk (t := .boolean) hret (by simp) (hb hby d9_61) rfl (by decide) (by decide) ?_
          rw [e11]
          exact ⟨(by unfold own_cur; rw [if_neg c35, if_neg c45, if_neg c35_1, if_pos c45_1]), N11, rfl⟩
        · refine Go.of (fun _ q => XS.icmpNo X10.here hx rfl (hb hby d9_45) rfl (flt c45_1).2.2.1 q) ?_
          show Go _ _ _ _ _ _ _ (T10.setTop (mkF m 48 #[.val (.ref a), .val (.int (1 : Int32)), .val (.int (1 : Int32))] []))
          refine Go.of (fun _ q => XS.iconst X10.here hx rfl (hb hby d9_48) q) ?_
          show Go _ _ _ _ _ _ _ (T10.setTop (mkF m 49 #[.val (.ref a), .val (.int (1 : Int32)), .val (.int (1 : Int32))] [(.int (1 : Int32))]))
          refine Go.of (fun _ q => XS.goto X10.here hx rfl (pc0 := 49) (pc' := 53) rfl (hb hby d9_49) (by decide) (by decide) q) ?_
          show Go _ _ _ _ _ _ _ (T10.setTop (mkF m 53 #[.val (.ref a), .val (.int (1 : Int32)), .val (.int (1 : Int32))] [(.int (1 : Int32))]))
          refine Go.of (fun _ q => XS.istoreN X10.here hx rfl (hb hby d9_53) rfl (l' := #[.val (.ref a), .val (.int (1 : Int32)), .val (.int (1 : Int32))]) rfl q) ?_
          show Go _ _ _ _ _ _ _ (T10.setTop (mkF m 54 #[.val (.ref a), .val (.int (1 : Int32)), .val (.int (1 : Int32))] []))
          refine Go.of (fun _ q => XS.iinc X10.here hx rfl (hb hby d9_54) rfl (l' := #[.val (.ref a), .val (.int (1 : Int32)), .val (.int (2 : Int32))]) rfl q) ?_
          show Go _ _ _ _ _ _ _ (T10.setTop (mkF m 57 #[.val (.ref a), .val (.int (1 : Int32)), .val (.int (2 : Int32))] []))
          refine Go.of (fun _ q => XS.goto X10.here hx rfl (pc0 := 57) (pc' := 16) rfl (hb hby d9_57) (by decide) (by decide) q) ?_
          show Go _ _ _ _ _ _ _ (T10.setTop (mkF m 16 #[.val (.ref a), .val (.int (1 : Int32)), .val (.int (2 : Int32))] []))
          refine Go.of (fun _ q => XS.iloadN X10.here hx rfl (hb hby d9_16) rfl q) ?_
          show Go _ _ _ _ _ _ _ (T10.setTop (mkF m 17 #[.val (.ref a), .val (.int (1 : Int32)), .val (.int (2 : Int32))] [(.int (2 : Int32))]))
          refine Go.of (fun _ q => XS.aloadN X10.here hx rfl (hb hby d9_17) rfl rfl q) ?_
          show Go _ _ _ _ _ _ _ (T10.setTop (mkF m 18 #[.val (.ref a), .val (.int (1 : Int32)), .val (.int (2 : Int32))] [(.ref a), (.int (2 : Int32))]))
          refine Go.virtual X10 hx hZ (y := (⟨"java/lang/String", "length", "()I"⟩ : MethodName)) (z := (⟨"java/lang/String", "length", "()I"⟩ : MethodName)) (a := a) (argsL := []) hown (hw _ (List.mem_of_getElem? (i := 42) rfl)) (hw _ (List.mem_of_getElem? (i := 43) rfl)) (notFace_of_selects (args := #[]) (mvT hZ (hw _ (List.mem_of_getElem? (i := 45) rfl)))) (hw _ (List.mem_of_getElem? (i := 45) rfl)) (hw _ (List.mem_of_getElem? (i := 44) rfl)) (hw _ (List.mem_of_getElem? (i := 7) rfl)) (hw _ (List.mem_of_getElem? (i := 46) rfl)) (by decide) 1 e10 E_a (rm10_3 l Z a0 hw a d kd gd cs h0 n0 Zs Od E_a F_a_value F_a_coder A_d Scs hcs) (by decide) (by decide) (by decide) (by decide) (g := (mkF m 18 #[.val (.ref a), .val (.int (1 : Int32)), .val (.int (2 : Int32))] [(.ref a), (.int (2 : Int32))])) rfl (by rw [hml]; rfl) (rest := [(.int (2 : Int32))]) (lenOf pd5 rfl) rfl (by show 2 * 0 + _ ≤ _; exact Nat.le_of_eq rfl) (hb hby d9_18) ?_
          intro T12 v12 L12 X12 q12
          obtain ⟨rfl, Nq12, e12⟩ := q12
          have N12 := Fr.app N10 Nq12
          show Go _ _ _ _ _ _ _ (T12.setTop (mkF m 21 #[.val (.ref a), .val (.int (1 : Int32)), .val (.int (2 : Int32))] [(.int (3 : Int32)), (.int (2 : Int32))]))
          refine Go.of (fun _ q => XS.icmpNo X12.here hx rfl (hb hby d9_21) rfl (tlt (by decide)).2.1 q) ?_
          show Go _ _ _ _ _ _ _ (T12.setTop (mkF m 24 #[.val (.ref a), .val (.int (1 : Int32)), .val (.int (2 : Int32))] []))
          refine Go.of (fun _ q => XS.iloadN X12.here hx rfl (hb hby d9_24) rfl q) ?_
          show Go _ _ _ _ _ _ _ (T12.setTop (mkF m 25 #[.val (.ref a), .val (.int (1 : Int32)), .val (.int (2 : Int32))] [(.int (1 : Int32))]))
          refine Go.of (fun _ q => XS.ifNo X12.here hx rfl (hb hby d9_25) rfl ((if0 _ _).trans (feq (by decide)).1) q) ?_
          show Go _ _ _ _ _ _ _ (T12.setTop (mkF m 28 #[.val (.ref a), .val (.int (1 : Int32)), .val (.int (2 : Int32))] []))
          refine Go.of (fun _ q => XS.aloadN X12.here hx rfl (hb hby d9_28) rfl rfl q) ?_
          show Go _ _ _ _ _ _ _ (T12.setTop (mkF m 29 #[.val (.ref a), .val (.int (1 : Int32)), .val (.int (2 : Int32))] [(.ref a)]))
          refine Go.of (fun _ q => XS.iloadN X12.here hx rfl (hb hby d9_29) rfl q) ?_
          show Go _ _ _ _ _ _ _ (T12.setTop (mkF m 30 #[.val (.ref a), .val (.int (1 : Int32)), .val (.int (2 : Int32))] [(.int (2 : Int32)), (.ref a)]))
          refine Go.virtual X12 hx hZ (y := (⟨"java/lang/String", "charAt", "(I)C"⟩ : MethodName)) (z := (⟨"java/lang/String", "charAt", "(I)C"⟩ : MethodName)) (a := a) (argsL := [(.int (2 : Int32))]) hown (hw _ (List.mem_of_getElem? (i := 52) rfl)) (hw _ (List.mem_of_getElem? (i := 53) rfl)) (notFace_of_selects (args := #[]) (mvT hZ (hw _ (List.mem_of_getElem? (i := 55) rfl)))) (hw _ (List.mem_of_getElem? (i := 55) rfl)) (hw _ (List.mem_of_getElem? (i := 54) rfl)) (hw _ (List.mem_of_getElem? (i := 7) rfl)) (hw _ (List.mem_of_getElem? (i := 56) rfl)) (by decide) 0 e12 E_a (rm12_i2 l Z a0 hw a d kd gd fm hfm cs h0 n0 Zs Od E_a F_a_value F_a_coder A_d Sfm Scs hcs) (by decide) (by decide) (by decide) (by decide) (g := (mkF m 30 #[.val (.ref a), .val (.int (1 : Int32)), .val (.int (2 : Int32))] [(.int (2 : Int32)), (.ref a)])) rfl (by rw [hml]; rfl) (rest := []) (lenOf pd6 rfl) rfl (by show 2 * 0 + _ ≤ _; exact Nat.le_of_eq rfl) (hb hby d9_30) ?_
          intro T13 v13 L13 X13 q13
          obtain ⟨rfl, Nq13, e13⟩ := q13
          have N13 := Fr.app N12 Nq13
          show Go _ _ _ _ _ _ _ (T13.setTop (mkF m 33 #[.val (.ref a), .val (.int (1 : Int32)), .val (.int (2 : Int32))] [(.int (own_ch (gd 2)))]))
          refine Go.of (fun _ q => XS.bipush X13.here hx rfl (hb hby d9_33) q) ?_
          show Go _ _ _ _ _ _ _ (T13.setTop (mkF m 35 #[.val (.ref a), .val (.int (1 : Int32)), .val (.int (2 : Int32))] [(.int (65 : Int32)), (.int (own_ch (gd 2)))]))
          by_cases c35_2 : (own_ch (gd 2)) < (65 : Int32)
          · refine Go.of (fun _ q => XS.icmpYes X13.here hx rfl (pc0 := 35) (pc' := 52) rfl (hb hby d9_35) rfl (tlt c35_2).1 (by decide) (by decide) q) ?_
            show Go _ _ _ _ _ _ _ (T13.setTop (mkF m 52 #[.val (.ref a), .val (.int (1 : Int32)), .val (.int (2 : Int32))] []))
            refine Go.of (fun _ q => XS.iconst X13.here hx rfl (hb hby d9_52) q) ?_
            show Go _ _ _ _ _ _ _ (T13.setTop (mkF m 53 #[.val (.ref a), .val (.int (1 : Int32)), .val (.int (2 : Int32))] [(.int (0 : Int32))]))
            refine Go.of (fun _ q => XS.istoreN X13.here hx rfl (hb hby d9_53) rfl (l' := #[.val (.ref a), .val (.int (0 : Int32)), .val (.int (2 : Int32))]) rfl q) ?_
            show Go _ _ _ _ _ _ _ (T13.setTop (mkF m 54 #[.val (.ref a), .val (.int (0 : Int32)), .val (.int (2 : Int32))] []))
            refine Go.of (fun _ q => XS.iinc X13.here hx rfl (hb hby d9_54) rfl (l' := #[.val (.ref a), .val (.int (0 : Int32)), .val (.int (3 : Int32))]) rfl q) ?_
            show Go _ _ _ _ _ _ _ (T13.setTop (mkF m 57 #[.val (.ref a), .val (.int (0 : Int32)), .val (.int (3 : Int32))] []))
            refine Go.of (fun _ q => XS.goto X13.here hx rfl (pc0 := 57) (pc' := 16) rfl (hb hby d9_57) (by decide) (by decide) q) ?_
            show Go _ _ _ _ _ _ _ (T13.setTop (mkF m 16 #[.val (.ref a), .val (.int (0 : Int32)), .val (.int (3 : Int32))] []))
            refine Go.of (fun _ q => XS.iloadN X13.here hx rfl (hb hby d9_16) rfl q) ?_
            show Go _ _ _ _ _ _ _ (T13.setTop (mkF m 17 #[.val (.ref a), .val (.int (0 : Int32)), .val (.int (3 : Int32))] [(.int (3 : Int32))]))
            refine Go.of (fun _ q => XS.aloadN X13.here hx rfl (hb hby d9_17) rfl rfl q) ?_
            show Go _ _ _ _ _ _ _ (T13.setTop (mkF m 18 #[.val (.ref a), .val (.int (0 : Int32)), .val (.int (3 : Int32))] [(.ref a), (.int (3 : Int32))]))
            refine Go.virtual X13 hx hZ (y := (⟨"java/lang/String", "length", "()I"⟩ : MethodName)) (z := (⟨"java/lang/String", "length", "()I"⟩ : MethodName)) (a := a) (argsL := []) hown (hw _ (List.mem_of_getElem? (i := 42) rfl)) (hw _ (List.mem_of_getElem? (i := 43) rfl)) (notFace_of_selects (args := #[]) (mvT hZ (hw _ (List.mem_of_getElem? (i := 45) rfl)))) (hw _ (List.mem_of_getElem? (i := 45) rfl)) (hw _ (List.mem_of_getElem? (i := 44) rfl)) (hw _ (List.mem_of_getElem? (i := 7) rfl)) (hw _ (List.mem_of_getElem? (i := 46) rfl)) (by decide) 1 e13 E_a (rm10_3 l Z a0 hw a d kd gd cs h0 n0 Zs Od E_a F_a_value F_a_coder A_d Scs hcs) (by decide) (by decide) (by decide) (by decide) (g := (mkF m 18 #[.val (.ref a), .val (.int (0 : Int32)), .val (.int (3 : Int32))] [(.ref a), (.int (3 : Int32))])) rfl (by rw [hml]; rfl) (rest := [(.int (3 : Int32))]) (lenOf pd5 rfl) rfl (by show 2 * 0 + _ ≤ _; exact Nat.le_of_eq rfl) (hb hby d9_18) ?_
            intro T14 v14 L14 X14 q14
            obtain ⟨rfl, Nq14, e14⟩ := q14
            have N14 := Fr.app N13 Nq14
            show Go _ _ _ _ _ _ _ (T14.setTop (mkF m 21 #[.val (.ref a), .val (.int (0 : Int32)), .val (.int (3 : Int32))] [(.int (3 : Int32)), (.int (3 : Int32))]))
            refine Go.of (fun _ q => XS.icmpYes X14.here hx rfl (pc0 := 21) (pc' := 60) rfl (hb hby d9_21) rfl (flt (by decide)).2.1 (by decide) (by decide) q) ?_
            show Go _ _ _ _ _ _ _ (T14.setTop (mkF m 60 #[.val (.ref a), .val (.int (0 : Int32)), .val (.int (3 : Int32))] []))
            refine Go.of (fun _ q => XS.iloadN X14.here hx rfl (hb hby d9_60) rfl q) ?_
            show Go _ _ _ _ _ _ _ (T14.setTop (mkF m 61 #[.val (.ref a), .val (.int (0 : Int32)), .val (.int (3 : Int32))] [(.int (0 : Int32))]))
            refine Go.retN X14 hx hlk (t := .boolean) hret (by simp) (hb hby d9_61) rfl (by decide) (by decide) ?_
            rw [e14]
            exact ⟨(by unfold own_cur; rw [if_neg c35, if_neg c45, if_neg c35_1, if_neg c45_1, if_pos c35_2]), N14, rfl⟩
          · refine Go.of (fun _ q => XS.icmpNo X13.here hx rfl (hb hby d9_35) rfl (flt c35_2).1 q) ?_
            show Go _ _ _ _ _ _ _ (T13.setTop (mkF m 38 #[.val (.ref a), .val (.int (1 : Int32)), .val (.int (2 : Int32))] []))
            refine Go.of (fun _ q => XS.aloadN X13.here hx rfl (hb hby d9_38) rfl rfl q) ?_
            show Go _ _ _ _ _ _ _ (T13.setTop (mkF m 39 #[.val (.ref a), .val (.int (1 : Int32)), .val (.int (2 : Int32))] [(.ref a)]))
            refine Go.of (fun _ q => XS.iloadN X13.here hx rfl (hb hby d9_39) rfl q) ?_
            show Go _ _ _ _ _ _ _ (T13.setTop (mkF m 40 #[.val (.ref a), .val (.int (1 : Int32)), .val (.int (2 : Int32))] [(.int (2 : Int32)), (.ref a)]))
            refine Go.virtual X13 hx hZ (y := (⟨"java/lang/String", "charAt", "(I)C"⟩ : MethodName)) (z := (⟨"java/lang/String", "charAt", "(I)C"⟩ : MethodName)) (a := a) (argsL := [(.int (2 : Int32))]) hown (hw _ (List.mem_of_getElem? (i := 52) rfl)) (hw _ (List.mem_of_getElem? (i := 53) rfl)) (notFace_of_selects (args := #[]) (mvT hZ (hw _ (List.mem_of_getElem? (i := 55) rfl)))) (hw _ (List.mem_of_getElem? (i := 55) rfl)) (hw _ (List.mem_of_getElem? (i := 54) rfl)) (hw _ (List.mem_of_getElem? (i := 7) rfl)) (hw _ (List.mem_of_getElem? (i := 56) rfl)) (by decide) 0 e13 E_a (rm12_i2 l Z a0 hw a d kd gd fm hfm cs h0 n0 Zs Od E_a F_a_value F_a_coder A_d Sfm Scs hcs) (by decide) (by decide) (by decide) (by decide) (g := (mkF m 40 #[.val (.ref a), .val (.int (1 : Int32)), .val (.int (2 : Int32))] [(.int (2 : Int32)), (.ref a)])) rfl (by rw [hml]; rfl) (rest := []) (lenOf pd6 rfl) rfl (by show 2 * 0 + _ ≤ _; exact Nat.le_of_eq rfl) (hb hby d9_40) ?_
            intro T15 v15 L15 X15 q15
            obtain ⟨rfl, Nq15, e15⟩ := q15
            have N15 := Fr.app N13 Nq15
            show Go _ _ _ _ _ _ _ (T15.setTop (mkF m 43 #[.val (.ref a), .val (.int (1 : Int32)), .val (.int (2 : Int32))] [(.int (own_ch (gd 2)))]))
            refine Go.of (fun _ q => XS.bipush X15.here hx rfl (hb hby d9_43) q) ?_
            show Go _ _ _ _ _ _ _ (T15.setTop (mkF m 45 #[.val (.ref a), .val (.int (1 : Int32)), .val (.int (2 : Int32))] [(.int (90 : Int32)), (.int (own_ch (gd 2)))]))
            by_cases c45_2 : (90 : Int32) < (own_ch (gd 2))
            · refine Go.of (fun _ q => XS.icmpYes X15.here hx rfl (pc0 := 45) (pc' := 52) rfl (hb hby d9_45) rfl (tlt c45_2).2.2.1 (by decide) (by decide) q) ?_
              show Go _ _ _ _ _ _ _ (T15.setTop (mkF m 52 #[.val (.ref a), .val (.int (1 : Int32)), .val (.int (2 : Int32))] []))
              refine Go.of (fun _ q => XS.iconst X15.here hx rfl (hb hby d9_52) q) ?_
              show Go _ _ _ _ _ _ _ (T15.setTop (mkF m 53 #[.val (.ref a), .val (.int (1 : Int32)), .val (.int (2 : Int32))] [(.int (0 : Int32))]))
              refine Go.of (fun _ q => XS.istoreN X15.here hx rfl (hb hby d9_53) rfl (l' := #[.val (.ref a), .val (.int (0 : Int32)), .val (.int (2 : Int32))]) rfl q) ?_
              show Go _ _ _ _ _ _ _ (T15.setTop (mkF m 54 #[.val (.ref a), .val (.int (0 : Int32)), .val (.int (2 : Int32))] []))
              refine Go.of (fun _ q => XS.iinc X15.here hx rfl (hb hby d9_54) rfl (l' := #[.val (.ref a), .val (.int (0 : Int32)), .val (.int (3 : Int32))]) rfl q) ?_
              show Go _ _ _ _ _ _ _ (T15.setTop (mkF m 57 #[.val (.ref a), .val (.int (0 : Int32)), .val (.int (3 : Int32))] []))
              refine Go.of (fun _ q => XS.goto X15.here hx rfl (pc0 := 57) (pc' := 16) rfl (hb hby d9_57) (by decide) (by decide) q) ?_
              show Go _ _ _ _ _ _ _ (T15.setTop (mkF m 16 #[.val (.ref a), .val (.int (0 : Int32)), .val (.int (3 : Int32))] []))
              refine Go.of (fun _ q => XS.iloadN X15.here hx rfl (hb hby d9_16) rfl q) ?_
              show Go _ _ _ _ _ _ _ (T15.setTop (mkF m 17 #[.val (.ref a), .val (.int (0 : Int32)), .val (.int (3 : Int32))] [(.int (3 : Int32))]))
              refine Go.of (fun _ q => XS.aloadN X15.here hx rfl (hb hby d9_17) rfl rfl q) ?_
              show Go _ _ _ _ _ _ _ (T15.setTop (mkF m 18 #[.val (.ref a), .val (.int (0 : Int32)), .val (.int (3 : Int32))] [(.ref a), (.int (3 : Int32))]))
              refine Go.virtual X15 hx hZ (y := (⟨"java/lang/String", "length", "()I"⟩ : MethodName)) (z := (⟨"java/lang/String", "length", "()I"⟩ : MethodName)) (a := a) (argsL := []) hown (hw _ (List.mem_of_getElem? (i := 42) rfl)) (hw _ (List.mem_of_getElem? (i := 43) rfl)) (notFace_of_selects (args := #[]) (mvT hZ (hw _ (List.mem_of_getElem? (i := 45) rfl)))) (hw _ (List.mem_of_getElem? (i := 45) rfl)) (hw _ (List.mem_of_getElem? (i := 44) rfl)) (hw _ (List.mem_of_getElem? (i := 7) rfl)) (hw _ (List.mem_of_getElem? (i := 46) rfl)) (by decide) 1 e15 E_a (rm10_3 l Z a0 hw a d kd gd cs h0 n0 Zs Od E_a F_a_value F_a_coder A_d Scs hcs) (by decide) (by decide) (by decide) (by decide) (g := (mkF m 18 #[.val (.ref a), .val (.int (0 : Int32)), .val (.int (3 : Int32))] [(.ref a), (.int (3 : Int32))])) rfl (by rw [hml]; rfl) (rest := [(.int (3 : Int32))]) (lenOf pd5 rfl) rfl (by show 2 * 0 + _ ≤ _; exact Nat.le_of_eq rfl) (hb hby d9_18) ?_
              intro T16 v16 L16 X16 q16
              obtain ⟨rfl, Nq16, e16⟩ := q16
              have N16 := Fr.app N15 Nq16
              show Go _ _ _ _ _ _ _ (T16.setTop (mkF m 21 #[.val (.ref a), .val (.int (0 : Int32)), .val (.int (3 : Int32))] [(.int (3 : Int32)), (.int (3 : Int32))]))
              refine Go.of (fun _ q => XS.icmpYes X16.here hx rfl (pc0 := 21) (pc' := 60) rfl (hb hby d9_21) rfl (flt (by decide)).2.1 (by decide) (by decide) q) ?_
              show Go _ _ _ _ _ _ _ (T16.setTop (mkF m 60 #[.val (.ref a), .val (.int (0 : Int32)), .val (.int (3 : Int32))] []))
              refine Go.of (fun _ q => XS.iloadN X16.here hx rfl (hb hby d9_60) rfl q) ?_
              show Go _ _ _ _ _ _ _ (T16.setTop (mkF m 61 #[.val (.ref a), .val (.int (0 : Int32)), .val (.int (3 : Int32))] [(.int (0 : Int32))]))
              refine Go.retN X16 hx hlk (t := .boolean) hret (by simp) (hb hby d9_61) rfl (by decide) (by decide) ?_
              rw [e16]
              exact ⟨(by unfold own_cur; rw [if_neg c35, if_neg c45, if_neg c35_1, if_neg c45_1, if_neg c35_2, if_pos c45_2]), N16, rfl⟩
            · refine Go.of (fun _ q => XS.icmpNo X15.here hx rfl (hb hby d9_45) rfl (flt c45_2).2.2.1 q) ?_
              show Go _ _ _ _ _ _ _ (T15.setTop (mkF m 48 #[.val (.ref a), .val (.int (1 : Int32)), .val (.int (2 : Int32))] []))
              refine Go.of (fun _ q => XS.iconst X15.here hx rfl (hb hby d9_48) q) ?_
              show Go _ _ _ _ _ _ _ (T15.setTop (mkF m 49 #[.val (.ref a), .val (.int (1 : Int32)), .val (.int (2 : Int32))] [(.int (1 : Int32))]))
              refine Go.of (fun _ q => XS.goto X15.here hx rfl (pc0 := 49) (pc' := 53) rfl (hb hby d9_49) (by decide) (by decide) q) ?_
              show Go _ _ _ _ _ _ _ (T15.setTop (mkF m 53 #[.val (.ref a), .val (.int (1 : Int32)), .val (.int (2 : Int32))] [(.int (1 : Int32))]))
              refine Go.of (fun _ q => XS.istoreN X15.here hx rfl (hb hby d9_53) rfl (l' := #[.val (.ref a), .val (.int (1 : Int32)), .val (.int (2 : Int32))]) rfl q) ?_
              show Go _ _ _ _ _ _ _ (T15.setTop (mkF m 54 #[.val (.ref a), .val (.int (1 : Int32)), .val (.int (2 : Int32))] []))
              refine Go.of (fun _ q => XS.iinc X15.here hx rfl (hb hby d9_54) rfl (l' := #[.val (.ref a), .val (.int (1 : Int32)), .val (.int (3 : Int32))]) rfl q) ?_
              show Go _ _ _ _ _ _ _ (T15.setTop (mkF m 57 #[.val (.ref a), .val (.int (1 : Int32)), .val (.int (3 : Int32))] []))
              refine Go.of (fun _ q => XS.goto X15.here hx rfl (pc0 := 57) (pc' := 16) rfl (hb hby d9_57) (by decide) (by decide) q) ?_
              show Go _ _ _ _ _ _ _ (T15.setTop (mkF m 16 #[.val (.ref a), .val (.int (1 : Int32)), .val (.int (3 : Int32))] []))
              refine Go.of (fun _ q => XS.iloadN X15.here hx rfl (hb hby d9_16) rfl q) ?_
              show Go _ _ _ _ _ _ _ (T15.setTop (mkF m 17 #[.val (.ref a), .val (.int (1 : Int32)), .val (.int (3 : Int32))] [(.int (3 : Int32))]))
              refine Go.of (fun _ q => XS.aloadN X15.here hx rfl (hb hby d9_17) rfl rfl q) ?_
              show Go _ _ _ _ _ _ _ (T15.setTop (mkF m 18 #[.val (.ref a), .val (.int (1 : Int32)), .val (.int (3 : Int32))] [(.ref a), (.int (3 : Int32))]))
              refine Go.virtual X15 hx hZ (y := (⟨"java/lang/String", "length", "()I"⟩ : MethodName)) (z := (⟨"java/lang/String", "length", "()I"⟩ : MethodName)) (a := a) (argsL := []) hown (hw _ (List.mem_of_getElem? (i := 42) rfl)) (hw _ (List.mem_of_getElem? (i := 43) rfl)) (notFace_of_selects (args := #[]) (mvT hZ (hw _ (List.mem_of_getElem? (i := 45) rfl)))) (hw _ (List.mem_of_getElem? (i := 45) rfl)) (hw _ (List.mem_of_getElem? (i := 44) rfl)) (hw _ (List.mem_of_getElem? (i := 7) rfl)) (hw _ (List.mem_of_getElem? (i := 46) rfl)) (by decide) 1 e15 E_a (rm10_3 l Z a0 hw a d kd gd cs h0 n0 Zs Od E_a F_a_value F_a_coder A_d Scs hcs) (by decide) (by decide) (by decide) (by decide) (g := (mkF m 18 #[.val (.ref a), .val (.int (1 : Int32)), .val (.int (3 : Int32))] [(.ref a), (.int (3 : Int32))])) rfl (by rw [hml]; rfl) (rest := [(.int (3 : Int32))]) (lenOf pd5 rfl) rfl (by show 2 * 0 + _ ≤ _; exact Nat.le_of_eq rfl) (hb hby d9_18) ?_
              intro T17 v17 L17 X17 q17
              obtain ⟨rfl, Nq17, e17⟩ := q17
              have N17 := Fr.app N15 Nq17
              show Go _ _ _ _ _ _ _ (T17.setTop (mkF m 21 #[.val (.ref a), .val (.int (1 : Int32)), .val (.int (3 : Int32))] [(.int (3 : Int32)), (.int (3 : Int32))]))
              refine Go.of (fun _ q => XS.icmpYes X17.here hx rfl (pc0 := 21) (pc' := 60) rfl (hb hby d9_21) rfl (flt (by decide)).2.1 (by decide) (by decide) q) ?_
              show Go _ _ _ _ _ _ _ (T17.setTop (mkF m 60 #[.val (.ref a), .val (.int (1 : Int32)), .val (.int (3 : Int32))] []))
              refine Go.of (fun _ q => XS.iloadN X17.here hx rfl (hb hby d9_60) rfl q) ?_
              show Go _ _ _ _ _ _ _ (T17.setTop (mkF m 61 #[.val (.ref a), .val (.int (1 : Int32)), .val (.int (3 : Int32))] [(.int (1 : Int32))]))
              refine Go.retN X17 hx hlk (t := .boolean) hret (by simp) (hb hby d9_61) rfl (by decide) (by decide) ?_
              rw [e17]
              exact ⟨(by unfold own_cur; rw [if_neg c35, if_neg c45, if_neg c35_1, if_neg c45_1, if_neg c35_2, if_neg c45_2]), N17, rfl⟩
theorem ef_10_4 (m : MethodId) (a : Addr) : entryFrame m #[(.ref a)] 1 = mkF m 0 #[.val (.ref a)] [] := by first | (simp [entryFrame, mkF, argsToLocals, Value.category]; done) | rfl
def Q10_4 (Z : State) (a : Addr) (d : Addr) (kd : ClassId) (gd : Nat → Int32) (cs : Int32) (h0 : Heap) (n0 : Nat) (v : Option Value) (h : Heap) (L : List Loc) : Prop := v = some (.int (4 : Int32)) ∧ Fr n0 L ∧ h = h0
set_option maxRecDepth 65536 in
set_option maxHeartbeats 40000000 in
theorem rm10_4 (l : Launch) (Z : State) (a0 : Array Value) (hw : ∀ d ∈ tables_1, d.before a0 Z = true) (a : Addr) (d : Addr) (kd : ClassId) (gd : Nat → Int32) (cs : Int32) (h0 : Heap) (n0 : Nat) (Zs : n0 ≤ h0.size) (Od : Old Z n0 h0) (E_a : Exa Z h0 a "java/lang/String") (F_a_value : Fld Z h0 a "java/lang/String" "value" "[B" (.ref d)) (F_a_coder : Fld Z h0 a "java/lang/String" "coder" "B" (.int (0 : Int32))) (A_d : AF Z h0 d kd .byte 4 (fun i => .int (gd i))) (Scs : Sta Z Z.heap "java/lang/String" "COMPACT_STRINGS" "Z" (.int cs)) (hcs : ¬ cs = (0 : Int32)) :
    Con l Z (⟨"java/lang/String", "length", "()I"⟩ : MethodName) jdk_42_method_54_code 1 (some .int) ({ frames := 1, cells := 0, slots := 0, locals := 13 } : Room) #[(.ref a)] h0 (Q10_4 Z a d kd gd cs h0 n0) := by
  refine Con.intro (plainFor_of_name pn0) (fun m => ef_10_4 m a) ?_
  intro p e s m below meth c s₁ hx hby hml0 hZ hown hnm hret hlk X0 e0
  have hml : c.maxLocals = 1 := hml0
  have N0 := Fr.nil n0
  have Kp : Keep h0 h0 [] := Keep.refl h0 _
  show Go _ _ _ _ _ _ _ (s₁.setTop (mkF m 0 #[.val (.ref a)] []))
  refine Go.of (fun _ q => XS.aloadN X0.here hx rfl (hb hby d10_0) rfl rfl q) ?_
  show Go _ _ _ _ _ _ _ (s₁.setTop (mkF m 1 #[.val (.ref a)] [(.ref a)]))
  obtain ⟨T1, X1, e1, st1⟩ := getF X0 hx hZ hown (host := "") (Or.inl (hw _ (List.mem_of_getElem? (i := 33) rfl))) Via.refl e0 F_a_value (g := (mkF m 1 #[.val (.ref a)] [(.ref a)])) rfl rfl (hb hby d10_1)
  refine Go.of st1 ?_
  show Go _ _ _ _ _ _ _ (T1.setTop (mkF m 4 #[.val (.ref a)] [(.ref d)]))
  refine Go.of (fun _ q => AF.length A_d X1 hx hZ e1 rfl (g := (mkF m 4 #[.val (.ref a)] [(.ref d)])) rfl rfl (hb hby d10_4) q) ?_
  show Go _ _ _ _ _ _ _ (T1.setTop (mkF m 5 #[.val (.ref a)] [(.int (4 : Int32))]))
  refine Go.of (fun _ q => XS.aloadN X1.here hx rfl (hb hby d10_5) rfl rfl q) ?_
  show Go _ _ _ _ _ _ _ (T1.setTop (mkF m 6 #[.val (.ref a)] [(.ref a), (.int (4 : Int32))]))
  refine Go.virtual X1 hx hZ (y := (⟨"java/lang/String", "coder", "()B"⟩ : MethodName)) (z := (⟨"java/lang/String", "coder", "()B"⟩ : MethodName)) (a := a) (argsL := []) hown (hw _ (List.mem_of_getElem? (i := 47) rfl)) (hw _ (List.mem_of_getElem? (i := 48) rfl)) (notFace_of_selects (args := #[]) (mvT hZ (hw _ (List.mem_of_getElem? (i := 50) rfl)))) (hw _ (List.mem_of_getElem? (i := 50) rfl)) (hw _ (List.mem_of_getElem? (i := 49) rfl)) (hw _ (List.mem_of_getElem? (i := 7) rfl)) (hw _ (List.mem_of_getElem? (i := 51) rfl)) (by decide) 1 e1 E_a (rm11 l Z a0 hw a cs h0 n0 Zs Od F_a_coder Scs hcs) (by decide) (by decide) (by decide) (by decide) (g := (mkF m 6 #[.val (.ref a)] [(.ref a), (.int (4 : Int32))])) rfl (by rw [hml]; rfl) (rest := [(.int (4 : Int32))]) (lenOf pd4 rfl) rfl (by show 2 * 0 + _ ≤ _; exact Nat.le_of_eq rfl) (hb hby d10_6) ?_
  intro T2 v2 L2 X2 q2
  obtain ⟨rfl, Nq2, e2⟩ := q2
  have N2 := Fr.app N0 Nq2
  show Go _ _ _ _ _ _ _ (T2.setTop (mkF m 9 #[.val (.ref a)] [(.int (0 : Int32)), (.int (4 : Int32))]))
  refine Go.of (fun _ q => XS.ishr X2.here hx rfl (hb hby d10_9) rfl q) ?_
  show Go _ _ _ _ _ _ _ (T2.setTop (mkF m 10 #[.val (.ref a)] [(.int (4 : Int32))]))
  refine Go.retI X2 hx hlk hret (hb hby d10_10) (by decide) (by decide) ?_
  rw [e2]
  exact ⟨rfl, N2, rfl⟩
theorem ef_9_4 (m : MethodId) (a : Addr) : entryFrame m #[(.ref a)] 3 = mkF m 0 #[.val (.ref a), .unset, .unset] [] := by first | (simp [entryFrame, mkF, argsToLocals, Value.category]; done) | rfl
def Q9_4 (Z : State) (a : Addr) (d : Addr) (kd : ClassId) (gd : Nat → Int32) (cs : Int32) (h0 : Heap) (n0 : Nat) (v : Option Value) (h : Heap) (L : List Loc) : Prop := v = some (.int (0 : Int32)) ∧ Fr n0 L ∧ h = h0
set_option maxRecDepth 65536 in
set_option maxHeartbeats 40000000 in
theorem rm9_4 (l : Launch) (Z : State) (a0 : Array Value) (hw : ∀ d ∈ tables_1, d.before a0 Z = true) (a : Addr) (d : Addr) (kd : ClassId) (gd : Nat → Int32) (cs : Int32) (h0 : Heap) (n0 : Nat) (Zs : n0 ≤ h0.size) (Od : Old Z n0 h0) (E_a : Exa Z h0 a "java/lang/String") (F_a_value : Fld Z h0 a "java/lang/String" "value" "[B" (.ref d)) (F_a_coder : Fld Z h0 a "java/lang/String" "coder" "B" (.int (0 : Int32))) (A_d : AF Z h0 d kd .byte 4 (fun i => .int (gd i))) (Scs : Sta Z Z.heap "java/lang/String" "COMPACT_STRINGS" "Z" (.int cs)) (hcs : ¬ cs = (0 : Int32)) :
    Con l Z (⟨"com/example/ddos_fee_ledger/ddosfeeledger/Money", "isCurrency", "(Ljava/lang/String;)Z"⟩ : MethodName) prog_43_method_4_code 3 (some .boolean) ({ frames := 2, cells := 0, slots := 0, locals := 26 } : Room) #[(.ref a)] h0 (Q9_4 Z a d kd gd cs h0 n0) := by
  refine Con.intro (plainFor_of_name pn3) (fun m => ef_9_4 m a) ?_
  intro p e s m below meth c s₁ hx hby hml0 hZ hown hnm hret hlk X0 e0
  have hml : c.maxLocals = 3 := hml0
  have N0 := Fr.nil n0
  have Kp : Keep h0 h0 [] := Keep.refl h0 _
  show Go _ _ _ _ _ _ _ (s₁.setTop (mkF m 0 #[.val (.ref a), .unset, .unset] []))
  refine Go.of (fun _ q => XS.aloadN X0.here hx rfl (hb hby d9_0) rfl rfl q) ?_
  show Go _ _ _ _ _ _ _ (s₁.setTop (mkF m 1 #[.val (.ref a), .unset, .unset] [(.ref a)]))
  refine Go.virtual X0 hx hZ (y := (⟨"java/lang/String", "length", "()I"⟩ : MethodName)) (z := (⟨"java/lang/String", "length", "()I"⟩ : MethodName)) (a := a) (argsL := []) hown (hw _ (List.mem_of_getElem? (i := 42) rfl)) (hw _ (List.mem_of_getElem? (i := 43) rfl)) (notFace_of_selects (args := #[]) (mvT hZ (hw _ (List.mem_of_getElem? (i := 45) rfl)))) (hw _ (List.mem_of_getElem? (i := 45) rfl)) (hw _ (List.mem_of_getElem? (i := 44) rfl)) (hw _ (List.mem_of_getElem? (i := 7) rfl)) (hw _ (List.mem_of_getElem? (i := 46) rfl)) (by decide) 0 e0 E_a (rm10_4 l Z a0 hw a d kd gd cs h0 n0 Zs Od E_a F_a_value F_a_coder A_d Scs hcs) (by decide) (by decide) (by decide) (by decide) (g := (mkF m 1 #[.val (.ref a), .unset, .unset] [(.ref a)])) rfl (by rw [hml]; rfl) (rest := []) (lenOf pd5 rfl) rfl (by show 2 * 0 + _ ≤ _; exact Nat.le_of_eq rfl) (hb hby d9_1) ?_
  intro T1 v1 L1 X1 q1
  obtain ⟨rfl, Nq1, e1⟩ := q1
  have N1 := Fr.app N0 Nq1
  show Go _ _ _ _ _ _ _ (T1.setTop (mkF m 4 #[.val (.ref a), .unset, .unset] [(.int (4 : Int32))]))
  refine Go.of (fun _ q => XS.iconst X1.here hx rfl (hb hby d9_4) q) ?_
  show Go _ _ _ _ _ _ _ (T1.setTop (mkF m 5 #[.val (.ref a), .unset, .unset] [(.int (3 : Int32)), (.int (4 : Int32))]))
  refine Go.of (fun _ q => XS.icmpYes X1.here hx rfl (pc0 := 5) (pc' := 12) rfl (hb hby d9_5) rfl (feq (by decide)).2 (by decide) (by decide) q) ?_
  show Go _ _ _ _ _ _ _ (T1.setTop (mkF m 12 #[.val (.ref a), .unset, .unset] []))
  refine Go.of (fun _ q => XS.iconst X1.here hx rfl (hb hby d9_12) q) ?_
  show Go _ _ _ _ _ _ _ (T1.setTop (mkF m 13 #[.val (.ref a), .unset, .unset] [(.int (0 : Int32))]))
  refine Go.of (fun _ q => XS.istoreN X1.here hx rfl (hb hby d9_13) rfl (l' := #[.val (.ref a), .val (.int (0 : Int32)), .unset]) rfl q) ?_
  show Go _ _ _ _ _ _ _ (T1.setTop (mkF m 14 #[.val (.ref a), .val (.int (0 : Int32)), .unset] []))
  refine Go.of (fun _ q => XS.iconst X1.here hx rfl (hb hby d9_14) q) ?_
  show Go _ _ _ _ _ _ _ (T1.setTop (mkF m 15 #[.val (.ref a), .val (.int (0 : Int32)), .unset] [(.int (0 : Int32))]))
  refine Go.of (fun _ q => XS.istoreN X1.here hx rfl (hb hby d9_15) rfl (l' := #[.val (.ref a), .val (.int (0 : Int32)), .val (.int (0 : Int32))]) rfl q) ?_
  show Go _ _ _ _ _ _ _ (T1.setTop (mkF m 16 #[.val (.ref a), .val (.int (0 : Int32)), .val (.int (0 : Int32))] []))
  refine Go.of (fun _ q => XS.iloadN X1.here hx rfl (hb hby d9_16) rfl q) ?_
  show Go _ _ _ _ _ _ _ (T1.setTop (mkF m 17 #[.val (.ref a), .val (.int (0 : Int32)), .val (.int (0 : Int32))] [(.int (0 : Int32))]))
  refine Go.of (fun _ q => XS.aloadN X1.here hx rfl (hb hby d9_17) rfl rfl q) ?_
  show Go _ _ _ _ _ _ _ (T1.setTop (mkF m 18 #[.val (.ref a), .val (.int (0 : Int32)), .val (.int (0 : Int32))] [(.ref a), (.int (0 : Int32))]))
  refine Go.virtual X1 hx hZ (y := (⟨"java/lang/String", "length", "()I"⟩ : MethodName)) (z := (⟨"java/lang/String", "length", "()I"⟩ : MethodName)) (a := a) (argsL := []) hown (hw _ (List.mem_of_getElem? (i := 42) rfl)) (hw _ (List.mem_of_getElem? (i := 43) rfl)) (notFace_of_selects (args := #[]) (mvT hZ (hw _ (List.mem_of_getElem? (i := 45) rfl)))) (hw _ (List.mem_of_getElem? (i := 45) rfl)) (hw _ (List.mem_of_getElem? (i := 44) rfl)) (hw _ (List.mem_of_getElem? (i := 7) rfl)) (hw _ (List.mem_of_getElem? (i := 46) rfl)) (by decide) 1 e1 E_a (rm10_4 l Z a0 hw a d kd gd cs h0 n0 Zs Od E_a F_a_value F_a_coder A_d Scs hcs) (by decide) (by decide) (by decide) (by decide) (g := (mkF m 18 #[.val (.ref a), .val (.int (0 : Int32)), .val (.int (0 : Int32))] [(.ref a), (.int (0 : Int32))])) rfl (by rw [hml]; rfl) (rest := [(.int (0 : Int32))]) (lenOf pd5 rfl) rfl (by show 2 * 0 + _ ≤ _; exact Nat.le_of_eq rfl) (hb hby d9_18) ?_
  intro T2 v2 L2 X2 q2
  obtain ⟨rfl, Nq2, e2⟩ := q2
  have N2 := Fr.app N1 Nq2
  show Go _ _ _ _ _ _ _ (T2.setTop (mkF m 21 #[.val (.ref a), .val (.int (0 : Int32)), .val (.int (0 : Int32))] [(.int (4 : Int32)), (.int (0 : Int32))]))
  refine Go.of (fun _ q => XS.icmpNo X2.here hx rfl (hb hby d9_21) rfl (tlt (by decide)).2.1 q) ?_
  show Go _ _ _ _ _ _ _ (T2.setTop (mkF m 24 #[.val (.ref a), .val (.int (0 : Int32)), .val (.int (0 : Int32))] []))
  refine Go.of (fun _ q => XS.iloadN X2.here hx rfl (hb hby d9_24) rfl q) ?_
  show Go _ _ _ _ _ _ _ (T2.setTop (mkF m 25 #[.val (.ref a), .val (.int (0 : Int32)), .val (.int (0 : Int32))] [(.int (0 : Int32))]))
  refine Go.of (fun _ q => XS.ifYes X2.here hx rfl (pc0 := 25) (pc' := 60) rfl (hb hby d9_25) rfl ((if0 _ _).trans (teq rfl).1) (by decide) (by decide) q) ?_
  show Go _ _ _ _ _ _ _ (T2.setTop (mkF m 60 #[.val (.ref a), .val (.int (0 : Int32)), .val (.int (0 : Int32))] []))
  refine Go.of (fun _ q => XS.iloadN X2.here hx rfl (hb hby d9_60) rfl q) ?_
  show Go _ _ _ _ _ _ _ (T2.setTop (mkF m 61 #[.val (.ref a), .val (.int (0 : Int32)), .val (.int (0 : Int32))] [(.int (0 : Int32))]))
  refine Go.retN X2 hx hlk (t := .boolean) hret (by simp) (hb hby d9_61) rfl (by decide) (by decide) ?_
  rw [e2]
  exact ⟨rfl, N2, rfl⟩
theorem ef_10_5 (m : MethodId) (a : Addr) : entryFrame m #[(.ref a)] 1 = mkF m 0 #[.val (.ref a)] [] := by first | (simp [entryFrame, mkF, argsToLocals, Value.category]; done) | rfl
def Q10_5 (Z : State) (a : Addr) (d : Addr) (kd : ClassId) (gd : Nat → Int32) (cs : Int32) (h0 : Heap) (n0 : Nat) (v : Option Value) (h : Heap) (L : List Loc) : Prop := v = some (.int (5 : Int32)) ∧ Fr n0 L ∧ h = h0
set_option maxRecDepth 65536 in
set_option maxHeartbeats 40000000 in
theorem rm10_5 (l : Launch) (Z : State) (a0 : Array Value) (hw : ∀ d ∈ tables_1, d.before a0 Z = true) (a : Addr) (d : Addr) (kd : ClassId) (gd : Nat → Int32) (cs : Int32) (h0 : Heap) (n0 : Nat) (Zs : n0 ≤ h0.size) (Od : Old Z n0 h0) (E_a : Exa Z h0 a "java/lang/String") (F_a_value : Fld Z h0 a "java/lang/String" "value" "[B" (.ref d)) (F_a_coder : Fld Z h0 a "java/lang/String" "coder" "B" (.int (0 : Int32))) (A_d : AF Z h0 d kd .byte 5 (fun i => .int (gd i))) (Scs : Sta Z Z.heap "java/lang/String" "COMPACT_STRINGS" "Z" (.int cs)) (hcs : ¬ cs = (0 : Int32)) :
    Con l Z (⟨"java/lang/String", "length", "()I"⟩ : MethodName) jdk_42_method_54_code 1 (some .int) ({ frames := 1, cells := 0, slots := 0, locals := 13 } : Room) #[(.ref a)] h0 (Q10_5 Z a d kd gd cs h0 n0) := by
  refine Con.intro (plainFor_of_name pn0) (fun m => ef_10_5 m a) ?_
  intro p e s m below meth c s₁ hx hby hml0 hZ hown hnm hret hlk X0 e0
  have hml : c.maxLocals = 1 := hml0
  have N0 := Fr.nil n0
  have Kp : Keep h0 h0 [] := Keep.refl h0 _
  show Go _ _ _ _ _ _ _ (s₁.setTop (mkF m 0 #[.val (.ref a)] []))
  refine Go.of (fun _ q => XS.aloadN X0.here hx rfl (hb hby d10_0) rfl rfl q) ?_
  show Go _ _ _ _ _ _ _ (s₁.setTop (mkF m 1 #[.val (.ref a)] [(.ref a)]))
  obtain ⟨T1, X1, e1, st1⟩ := getF X0 hx hZ hown (host := "") (Or.inl (hw _ (List.mem_of_getElem? (i := 33) rfl))) Via.refl e0 F_a_value (g := (mkF m 1 #[.val (.ref a)] [(.ref a)])) rfl rfl (hb hby d10_1)
  refine Go.of st1 ?_
  show Go _ _ _ _ _ _ _ (T1.setTop (mkF m 4 #[.val (.ref a)] [(.ref d)]))
  refine Go.of (fun _ q => AF.length A_d X1 hx hZ e1 rfl (g := (mkF m 4 #[.val (.ref a)] [(.ref d)])) rfl rfl (hb hby d10_4) q) ?_
  show Go _ _ _ _ _ _ _ (T1.setTop (mkF m 5 #[.val (.ref a)] [(.int (5 : Int32))]))
  refine Go.of (fun _ q => XS.aloadN X1.here hx rfl (hb hby d10_5) rfl rfl q) ?_
  show Go _ _ _ _ _ _ _ (T1.setTop (mkF m 6 #[.val (.ref a)] [(.ref a), (.int (5 : Int32))]))
  refine Go.virtual X1 hx hZ (y := (⟨"java/lang/String", "coder", "()B"⟩ : MethodName)) (z := (⟨"java/lang/String", "coder", "()B"⟩ : MethodName)) (a := a) (argsL := []) hown (hw _ (List.mem_of_getElem? (i := 47) rfl)) (hw _ (List.mem_of_getElem? (i := 48) rfl)) (notFace_of_selects (args := #[]) (mvT hZ (hw _ (List.mem_of_getElem? (i := 50) rfl)))) (hw _ (List.mem_of_getElem? (i := 50) rfl)) (hw _ (List.mem_of_getElem? (i := 49) rfl)) (hw _ (List.mem_of_getElem? (i := 7) rfl)) (hw _ (List.mem_of_getElem? (i := 51) rfl)) (by decide) 1 e1 E_a (rm11 l Z a0 hw a cs h0 n0 Zs Od F_a_coder Scs hcs) (by decide) (by decide) (by decide) (by decide) (g := (mkF m 6 #[.val (.ref a)] [(.ref a), (.int (5 : Int32))])) rfl (by rw [hml]; rfl) (rest := [(.int (5 : Int32))]) (lenOf pd4 rfl) rfl (by show 2 * 0 + _ ≤ _; exact Nat.le_of_eq rfl) (hb hby d10_6) ?_
  intro T2 v2 L2 X2 q2
  obtain ⟨rfl, Nq2, e2⟩ := q2
  have N2 := Fr.app N0 Nq2
  show Go _ _ _ _ _ _ _ (T2.setTop (mkF m 9 #[.val (.ref a)] [(.int (0 : Int32)), (.int (5 : Int32))]))
  refine Go.of (fun _ q => XS.ishr X2.here hx rfl (hb hby d10_9) rfl q) ?_
  show Go _ _ _ _ _ _ _ (T2.setTop (mkF m 10 #[.val (.ref a)] [(.int (5 : Int32))]))
  refine Go.retI X2 hx hlk hret (hb hby d10_10) (by decide) (by decide) ?_
  rw [e2]
  exact ⟨rfl, N2, rfl⟩
theorem ef_9_5 (m : MethodId) (a : Addr) : entryFrame m #[(.ref a)] 3 = mkF m 0 #[.val (.ref a), .unset, .unset] [] := by first | (simp [entryFrame, mkF, argsToLocals, Value.category]; done) | rfl
def Q9_5 (Z : State) (a : Addr) (d : Addr) (kd : ClassId) (gd : Nat → Int32) (cs : Int32) (h0 : Heap) (n0 : Nat) (v : Option Value) (h : Heap) (L : List Loc) : Prop := v = some (.int (0 : Int32)) ∧ Fr n0 L ∧ h = h0
set_option maxRecDepth 65536 in
set_option maxHeartbeats 40000000 in
theorem rm9_5 (l : Launch) (Z : State) (a0 : Array Value) (hw : ∀ d ∈ tables_1, d.before a0 Z = true) (a : Addr) (d : Addr) (kd : ClassId) (gd : Nat → Int32) (cs : Int32) (h0 : Heap) (n0 : Nat) (Zs : n0 ≤ h0.size) (Od : Old Z n0 h0) (E_a : Exa Z h0 a "java/lang/String") (F_a_value : Fld Z h0 a "java/lang/String" "value" "[B" (.ref d)) (F_a_coder : Fld Z h0 a "java/lang/String" "coder" "B" (.int (0 : Int32))) (A_d : AF Z h0 d kd .byte 5 (fun i => .int (gd i))) (Scs : Sta Z Z.heap "java/lang/String" "COMPACT_STRINGS" "Z" (.int cs)) (hcs : ¬ cs = (0 : Int32)) :
    Con l Z (⟨"com/example/ddos_fee_ledger/ddosfeeledger/Money", "isCurrency", "(Ljava/lang/String;)Z"⟩ : MethodName) prog_43_method_4_code 3 (some .boolean) ({ frames := 2, cells := 0, slots := 0, locals := 26 } : Room) #[(.ref a)] h0 (Q9_5 Z a d kd gd cs h0 n0) := by
  refine Con.intro (plainFor_of_name pn3) (fun m => ef_9_5 m a) ?_
  intro p e s m below meth c s₁ hx hby hml0 hZ hown hnm hret hlk X0 e0
  have hml : c.maxLocals = 3 := hml0
  have N0 := Fr.nil n0
  have Kp : Keep h0 h0 [] := Keep.refl h0 _
  show Go _ _ _ _ _ _ _ (s₁.setTop (mkF m 0 #[.val (.ref a), .unset, .unset] []))
  refine Go.of (fun _ q => XS.aloadN X0.here hx rfl (hb hby d9_0) rfl rfl q) ?_
  show Go _ _ _ _ _ _ _ (s₁.setTop (mkF m 1 #[.val (.ref a), .unset, .unset] [(.ref a)]))
  refine Go.virtual X0 hx hZ (y := (⟨"java/lang/String", "length", "()I"⟩ : MethodName)) (z := (⟨"java/lang/String", "length", "()I"⟩ : MethodName)) (a := a) (argsL := []) hown (hw _ (List.mem_of_getElem? (i := 42) rfl)) (hw _ (List.mem_of_getElem? (i := 43) rfl)) (notFace_of_selects (args := #[]) (mvT hZ (hw _ (List.mem_of_getElem? (i := 45) rfl)))) (hw _ (List.mem_of_getElem? (i := 45) rfl)) (hw _ (List.mem_of_getElem? (i := 44) rfl)) (hw _ (List.mem_of_getElem? (i := 7) rfl)) (hw _ (List.mem_of_getElem? (i := 46) rfl)) (by decide) 0 e0 E_a (rm10_5 l Z a0 hw a d kd gd cs h0 n0 Zs Od E_a F_a_value F_a_coder A_d Scs hcs) (by decide) (by decide) (by decide) (by decide) (g := (mkF m 1 #[.val (.ref a), .unset, .unset] [(.ref a)])) rfl (by rw [hml]; rfl) (rest := []) (lenOf pd5 rfl) rfl (by show 2 * 0 + _ ≤ _; exact Nat.le_of_eq rfl) (hb hby d9_1) ?_
  intro T1 v1 L1 X1 q1
  obtain ⟨rfl, Nq1, e1⟩ := q1
  have N1 := Fr.app N0 Nq1
  show Go _ _ _ _ _ _ _ (T1.setTop (mkF m 4 #[.val (.ref a), .unset, .unset] [(.int (5 : Int32))]))
  refine Go.of (fun _ q => XS.iconst X1.here hx rfl (hb hby d9_4) q) ?_
  show Go _ _ _ _ _ _ _ (T1.setTop (mkF m 5 #[.val (.ref a), .unset, .unset] [(.int (3 : Int32)), (.int (5 : Int32))]))
  refine Go.of (fun _ q => XS.icmpYes X1.here hx rfl (pc0 := 5) (pc' := 12) rfl (hb hby d9_5) rfl (feq (by decide)).2 (by decide) (by decide) q) ?_
  show Go _ _ _ _ _ _ _ (T1.setTop (mkF m 12 #[.val (.ref a), .unset, .unset] []))
  refine Go.of (fun _ q => XS.iconst X1.here hx rfl (hb hby d9_12) q) ?_
  show Go _ _ _ _ _ _ _ (T1.setTop (mkF m 13 #[.val (.ref a), .unset, .unset] [(.int (0 : Int32))]))
  refine Go.of (fun _ q => XS.istoreN X1.here hx rfl (hb hby d9_13) rfl (l' := #[.val (.ref a), .val (.int (0 : Int32)), .unset]) rfl q) ?_
  show Go _ _ _ _ _ _ _ (T1.setTop (mkF m 14 #[.val (.ref a), .val (.int (0 : Int32)), .unset] []))
  refine Go.of (fun _ q => XS.iconst X1.here hx rfl (hb hby d9_14) q) ?_
  show Go _ _ _ _ _ _ _ (T1.setTop (mkF m 15 #[.val (.ref a), .val (.int (0 : Int32)), .unset] [(.int (0 : Int32))]))
  refine Go.of (fun _ q => XS.istoreN X1.here hx rfl (hb hby d9_15) rfl (l' := #[.val (.ref a), .val (.int (0 : Int32)), .val (.int (0 : Int32))]) rfl q) ?_
  show Go _ _ _ _ _ _ _ (T1.setTop (mkF m 16 #[.val (.ref a), .val (.int (0 : Int32)), .val (.int (0 : Int32))] []))
  refine Go.of (fun _ q => XS.iloadN X1.here hx rfl (hb hby d9_16) rfl q) ?_
  show Go _ _ _ _ _ _ _ (T1.setTop (mkF m 17 #[.val (.ref a), .val (.int (0 : Int32)), .val (.int (0 : Int32))] [(.int (0 : Int32))]))
  refine Go.of (fun _ q => XS.aloadN X1.here hx rfl (hb hby d9_17) rfl rfl q) ?_
  show Go _ _ _ _ _ _ _ (T1.setTop (mkF m 18 #[.val (.ref a), .val (.int (0 : Int32)), .val (.int (0 : Int32))] [(.ref a), (.int (0 : Int32))]))
  refine Go.virtual X1 hx hZ (y := (⟨"java/lang/String", "length", "()I"⟩ : MethodName)) (z := (⟨"java/lang/String", "length", "()I"⟩ : MethodName)) (a := a) (argsL := []) hown (hw _ (List.mem_of_getElem? (i := 42) rfl)) (hw _ (List.mem_of_getElem? (i := 43) rfl)) (notFace_of_selects (args := #[]) (mvT hZ (hw _ (List.mem_of_getElem? (i := 45) rfl)))) (hw _ (List.mem_of_getElem? (i := 45) rfl)) (hw _ (List.mem_of_getElem? (i := 44) rfl)) (hw _ (List.mem_of_getElem? (i := 7) rfl)) (hw _ (List.mem_of_getElem? (i := 46) rfl)) (by decide) 1 e1 E_a (rm10_5 l Z a0 hw a d kd gd cs h0 n0 Zs Od E_a F_a_value F_a_coder A_d Scs hcs) (by decide) (by decide) (by decide) (by decide) (g := (mkF m 18 #[.val (.ref a), .val (.int (0 : Int32)), .val (.int (0 : Int32))] [(.ref a), (.int (0 : Int32))])) rfl (by rw [hml]; rfl) (rest := [(.int (0 : Int32))]) (lenOf pd5 rfl) rfl (by show 2 * 0 + _ ≤ _; exact Nat.le_of_eq rfl) (hb hby d9_18) ?_
  intro T2 v2 L2 X2 q2
  obtain ⟨rfl, Nq2, e2⟩ := q2
  have N2 := Fr.app N1 Nq2
  show Go _ _ _ _ _ _ _ (T2.setTop (mkF m 21 #[.val (.ref a), .val (.int (0 : Int32)), .val (.int (0 : Int32))] [(.int (5 : Int32)), (.int (0 : Int32))]))
  refine Go.of (fun _ q => XS.icmpNo X2.here hx rfl (hb hby d9_21) rfl (tlt (by decide)).2.1 q) ?_
  show Go _ _ _ _ _ _ _ (T2.setTop (mkF m 24 #[.val (.ref a), .val (.int (0 : Int32)), .val (.int (0 : Int32))] []))
  refine Go.of (fun _ q => XS.iloadN X2.here hx rfl (hb hby d9_24) rfl q) ?_
  show Go _ _ _ _ _ _ _ (T2.setTop (mkF m 25 #[.val (.ref a), .val (.int (0 : Int32)), .val (.int (0 : Int32))] [(.int (0 : Int32))]))
  refine Go.of (fun _ q => XS.ifYes X2.here hx rfl (pc0 := 25) (pc' := 60) rfl (hb hby d9_25) rfl ((if0 _ _).trans (teq rfl).1) (by decide) (by decide) q) ?_
  show Go _ _ _ _ _ _ _ (T2.setTop (mkF m 60 #[.val (.ref a), .val (.int (0 : Int32)), .val (.int (0 : Int32))] []))
  refine Go.of (fun _ q => XS.iloadN X2.here hx rfl (hb hby d9_60) rfl q) ?_
  show Go _ _ _ _ _ _ _ (T2.setTop (mkF m 61 #[.val (.ref a), .val (.int (0 : Int32)), .val (.int (0 : Int32))] [(.int (0 : Int32))]))
  refine Go.retN X2 hx hlk (t := .boolean) hret (by simp) (hb hby d9_61) rfl (by decide) (by decide) ?_
  rw [e2]
  exact ⟨rfl, N2, rfl⟩
theorem d8_0 : decode method_2_code 0 = .ok (.iload_n 0, 1) := by decide +kernel
theorem d8_1 : decode method_2_code 1 = .ok (.bipush 65, 2) := by decide +kernel
theorem d8_3 : decode method_2_code 3 = .ok (.if_icmp .lt 13, 3) := by decide +kernel
theorem d8_6 : decode method_2_code 6 = .ok (.iload_n 0, 1) := by decide +kernel
theorem d8_7 : decode method_2_code 7 = .ok (.bipush 90, 2) := by decide +kernel
theorem d8_9 : decode method_2_code 9 = .ok (.if_icmp .gt 7, 3) := by decide +kernel
theorem d8_12 : decode method_2_code 12 = .ok (.iconst 1, 1) := by decide +kernel
theorem d8_13 : decode method_2_code 13 = .ok (.goto 4, 3) := by decide +kernel
theorem d8_16 : decode method_2_code 16 = .ok (.iconst 0, 1) := by decide +kernel
theorem d8_17 : decode method_2_code 17 = .ok (.ireturn, 1) := by decide +kernel
theorem pn4 : plainName "com/example/ddos_fee_ledger/ddosfeeledger/MoneyIsCurrencyPinLaw" = true := by first | (simp [plainName, overriddenIn]; done) | decide +kernel
theorem ef_8 (m : MethodId) (x1 : Int32) : entryFrame m #[(.int x1)] 1 = mkF m 0 #[.val (.int x1)] [] := by first | (simp [entryFrame, mkF, argsToLocals, Value.category]; done) | rfl
def Q8 (Z : State) (x1 : Int32) (h0 : Heap) (n0 : Nat) (v : Option Value) (h : Heap) (L : List Loc) : Prop := v = some (.int (own_up x1)) ∧ Fr n0 L ∧ h = h0
set_option maxRecDepth 65536 in
set_option maxHeartbeats 40000000 in
theorem rm8 (l : Launch) (Z : State) (a0 : Array Value) (hw : ∀ d ∈ tables_1, d.before a0 Z = true) (x1 : Int32) (h0 : Heap) (n0 : Nat) (Zs : n0 ≤ h0.size)  :
    Con l Z (⟨"com/example/ddos_fee_ledger/ddosfeeledger/MoneyIsCurrencyPinLaw", "upper", "(C)Z"⟩ : MethodName) method_2_code 1 (some .boolean) ({ frames := 0, cells := 0, slots := 0, locals := 0 } : Room) #[(.int x1)] h0 (Q8 Z x1 h0 n0) := by
  refine Con.intro (plainFor_of_name pn4) (fun m => ef_8 m x1) ?_
  intro p e s m below meth c s₁ hx hby hml0 hZ hown hnm hret hlk X0 e0
  have hml : c.maxLocals = 1 := hml0
  have N0 := Fr.nil n0
  have Kp : Keep h0 h0 [] := Keep.refl h0 _
  show Go _ _ _ _ _ _ _ (s₁.setTop (mkF m 0 #[.val (.int x1)] []))
  refine Go.of (fun _ q => XS.iloadN X0.here hx rfl (hb hby d8_0) rfl q) ?_
  show Go _ _ _ _ _ _ _ (s₁.setTop (mkF m 1 #[.val (.int x1)] [(.int x1)]))
  refine Go.of (fun _ q => XS.bipush X0.here hx rfl (hb hby d8_1) q) ?_
  show Go _ _ _ _ _ _ _ (s₁.setTop (mkF m 3 #[.val (.int x1)] [(.int (65 : Int32)), (.int x1)]))
  by_cases c3 : x1 < (65 : Int32)
  · refine Go.of (fun _ q => XS.icmpYes X0.here hx rfl (pc0 := 3) (pc' := 16) rfl (hb hby d8_3) rfl (tlt c3).1 (by decide) (by decide) q) ?_
    show Go _ _ _ _ _ _ _ (s₁.setTop (mkF m 16 #[.val (.int x1)] []))
    refine Go.of (fun _ q => XS.iconst X0.here hx rfl (hb hby d8_16) q) ?_
    show Go _ _ _ _ _ _ _ (s₁.setTop (mkF m 17 #[.val (.int x1)] [(.int (0 : Int32))]))
    refine Go.retN X0 hx hlk (t := .boolean) hret (by simp) (hb hby d8_17) rfl (by decide) (by decide) ?_
    rw [e0]
    exact ⟨(by unfold own_up; rw [if_pos c3]), N0, rfl⟩
  · refine Go.of (fun _ q => XS.icmpNo X0.here hx rfl (hb hby d8_3) rfl (flt c3).1 q) ?_
    show Go _ _ _ _ _ _ _ (s₁.setTop (mkF m 6 #[.val (.int x1)] []))
    refine Go.of (fun _ q => XS.iloadN X0.here hx rfl (hb hby d8_6) rfl q) ?_
    show Go _ _ _ _ _ _ _ (s₁.setTop (mkF m 7 #[.val (.int x1)] [(.int x1)]))
    refine Go.of (fun _ q => XS.bipush X0.here hx rfl (hb hby d8_7) q) ?_
    show Go _ _ _ _ _ _ _ (s₁.setTop (mkF m 9 #[.val (.int x1)] [(.int (90 : Int32)), (.int x1)]))
    by_cases c9 : (90 : Int32) < x1
    · refine Go.of (fun _ q => XS.icmpYes X0.here hx rfl (pc0 := 9) (pc' := 16) rfl (hb hby d8_9) rfl (tlt c9).2.2.1 (by decide) (by decide) q) ?_
      show Go _ _ _ _ _ _ _ (s₁.setTop (mkF m 16 #[.val (.int x1)] []))
      refine Go.of (fun _ q => XS.iconst X0.here hx rfl (hb hby d8_16) q) ?_
      show Go _ _ _ _ _ _ _ (s₁.setTop (mkF m 17 #[.val (.int x1)] [(.int (0 : Int32))]))
      refine Go.retN X0 hx hlk (t := .boolean) hret (by simp) (hb hby d8_17) rfl (by decide) (by decide) ?_
      rw [e0]
      exact ⟨(by unfold own_up; rw [if_neg c3, if_pos c9]), N0, rfl⟩
    · refine Go.of (fun _ q => XS.icmpNo X0.here hx rfl (hb hby d8_9) rfl (flt c9).2.2.1 q) ?_
      show Go _ _ _ _ _ _ _ (s₁.setTop (mkF m 12 #[.val (.int x1)] []))
      refine Go.of (fun _ q => XS.iconst X0.here hx rfl (hb hby d8_12) q) ?_
      show Go _ _ _ _ _ _ _ (s₁.setTop (mkF m 13 #[.val (.int x1)] [(.int (1 : Int32))]))
      refine Go.of (fun _ q => XS.goto X0.here hx rfl (pc0 := 13) (pc' := 17) rfl (hb hby d8_13) (by decide) (by decide) q) ?_
      show Go _ _ _ _ _ _ _ (s₁.setTop (mkF m 17 #[.val (.int x1)] [(.int (1 : Int32))]))
      refine Go.retN X0 hx hlk (t := .boolean) hret (by simp) (hb hby d8_17) rfl (by decide) (by decide) ?_
      rw [e0]
      exact ⟨(by unfold own_up; rw [if_neg c3, if_neg c9]), N0, rfl⟩
theorem d18_0 : decode jdk_43_method_3_code 0 = .ok (.iload_n 0, 1) := by decide +kernel
theorem d18_1 : decode jdk_43_method_3_code 1 = .ok (.sipush 255, 3) := by decide +kernel
theorem d18_4 : decode jdk_43_method_3_code 4 = .ok (.if_icmp .gt 7, 3) := by decide +kernel
theorem d18_7 : decode jdk_43_method_3_code 7 = .ok (.iconst 1, 1) := by decide +kernel
theorem d18_8 : decode jdk_43_method_3_code 8 = .ok (.goto 4, 3) := by decide +kernel
theorem d18_12 : decode jdk_43_method_3_code 12 = .ok (.ireturn, 1) := by decide +kernel
theorem ef_18 (m : MethodId) (x1 : Int32) : entryFrame m #[(.int x1)] 1 = mkF m 0 #[.val (.int x1)] [] := by first | (simp [entryFrame, mkF, argsToLocals, Value.category]; done) | rfl
def Q18 (Z : State) (x1 : Int32) (h0 : Heap) (n0 : Nat) (v : Option Value) (h : Heap) (L : List Loc) : Prop := v = some (.int (1 : Int32)) ∧ Fr n0 L ∧ h = h0
set_option maxRecDepth 65536 in
set_option maxHeartbeats 40000000 in
theorem rm18 (l : Launch) (Z : State) (a0 : Array Value) (hw : ∀ d ∈ tables_1, d.before a0 Z = true) (x1 : Int32) (h0 : Heap) (n0 : Nat) (Zs : n0 ≤ h0.size) (hx1 : ¬ (255 : Int32) < x1) :
    Con l Z (⟨"java/lang/StringLatin1", "canEncode", "(C)Z"⟩ : MethodName) jdk_43_method_3_code 1 (some .boolean) ({ frames := 0, cells := 0, slots := 0, locals := 0 } : Room) #[(.int x1)] h0 (Q18 Z x1 h0 n0) := by
  refine Con.intro (plainFor_of_name pn2) (fun m => ef_18 m x1) ?_
  intro p e s m below meth c s₁ hx hby hml0 hZ hown hnm hret hlk X0 e0
  have hml : c.maxLocals = 1 := hml0
  have N0 := Fr.nil n0
  have Kp : Keep h0 h0 [] := Keep.refl h0 _
  show Go _ _ _ _ _ _ _ (s₁.setTop (mkF m 0 #[.val (.int x1)] []))
  refine Go.of (fun _ q => XS.iloadN X0.here hx rfl (hb hby d18_0) rfl q) ?_
  show Go _ _ _ _ _ _ _ (s₁.setTop (mkF m 1 #[.val (.int x1)] [(.int x1)]))
  refine Go.of (fun _ q => XS.sipush X0.here hx rfl (hb hby d18_1) q) ?_
  show Go _ _ _ _ _ _ _ (s₁.setTop (mkF m 4 #[.val (.int x1)] [(.int (255 : Int32)), (.int x1)]))
  refine Go.of (fun _ q => XS.icmpNo X0.here hx rfl (hb hby d18_4) rfl (flt hx1).2.2.1 q) ?_
  show Go _ _ _ _ _ _ _ (s₁.setTop (mkF m 7 #[.val (.int x1)] []))
  refine Go.of (fun _ q => XS.iconst X0.here hx rfl (hb hby d18_7) q) ?_
  show Go _ _ _ _ _ _ _ (s₁.setTop (mkF m 8 #[.val (.int x1)] [(.int (1 : Int32))]))
  refine Go.of (fun _ q => XS.goto X0.here hx rfl (pc0 := 8) (pc' := 12) rfl (hb hby d18_8) (by decide) (by decide) q) ?_
  show Go _ _ _ _ _ _ _ (s₁.setTop (mkF m 12 #[.val (.int x1)] [(.int (1 : Int32))]))
  refine Go.retN X0 hx hlk (t := .boolean) hret (by simp) (hb hby d18_12) rfl (by decide) (by decide) ?_
  rw [e0]
  exact ⟨rfl, N0, rfl⟩
theorem d19_0 : decode jdk_43_method_46_code 0 = .ok (.iconst 1, 1) := by decide +kernel
theorem d19_1 : decode jdk_43_method_46_code 1 = .ok (.newarray .byte, 2) := by decide +kernel
theorem d19_3 : decode jdk_43_method_46_code 3 = .ok (.dup, 1) := by decide +kernel
theorem d19_4 : decode jdk_43_method_46_code 4 = .ok (.iconst 0, 1) := by decide +kernel
theorem d19_5 : decode jdk_43_method_46_code 5 = .ok (.iload_n 0, 1) := by decide +kernel
theorem d19_6 : decode jdk_43_method_46_code 6 = .ok (.i2b, 1) := by decide +kernel
theorem d19_7 : decode jdk_43_method_46_code 7 = .ok (.bastore, 1) := by decide +kernel
theorem d19_8 : decode jdk_43_method_46_code 8 = .ok (.areturn, 1) := by decide +kernel
theorem ef_19 (m : MethodId) (x1 : Int32) : entryFrame m #[(.int x1)] 1 = mkF m 0 #[.val (.int x1)] [] := by first | (simp [entryFrame, mkF, argsToLocals, Value.category]; done) | rfl
def Q19 (Z : State) (x1 : Int32) (h0 : Heap) (n0 : Nat) (v : Option Value) (h : Heap) (L : List Loc) : Prop := ∃ d : Addr, ∃ kd : ClassId, ∃ gd : Nat → Int32, v = some (.ref d) ∧ Fr n0 L ∧ Keep h0 h [] ∧ h0.size ≤ d ∧ AF Z h d kd .byte 1 (fun i => .int (gd i))
set_option maxRecDepth 65536 in
set_option maxHeartbeats 40000000 in
theorem rm19 (l : Launch) (Z : State) (a0 : Array Value) (hw : ∀ d ∈ tables_1, d.before a0 Z = true) (x1 : Int32) (h0 : Heap) (n0 : Nat) (Zs : n0 ≤ h0.size)  :
    Con l Z (⟨"java/lang/StringLatin1", "toBytes", "(C)[B"⟩ : MethodName) jdk_43_method_46_code 1 (some (.array .byte)) ({ frames := 0, cells := 1, slots := 1, locals := 0 } : Room) #[(.int x1)] h0 (Q19 Z x1 h0 n0) := by
  refine Con.intro (plainFor_of_name pn2) (fun m => ef_19 m x1) ?_
  intro p e s m below meth c s₁ hx hby hml0 hZ hown hnm hret hlk X0 e0
  have hml : c.maxLocals = 1 := hml0
  have N0 := Fr.nil n0
  have Kp : Keep h0 h0 [] := Keep.refl h0 _
  show Go _ _ _ _ _ _ _ (s₁.setTop (mkF m 0 #[.val (.int x1)] []))
  refine Go.of (fun _ q => XS.iconst X0.here hx rfl (hb hby d19_0) q) ?_
  show Go _ _ _ _ _ _ _ (s₁.setTop (mkF m 1 #[.val (.int x1)] [(.int (1 : Int32))]))
  obtain ⟨T1, h1, k1, X1, e1, E1, A1, B1, st1⟩ := newPE X0 hx hZ (hw _ (List.mem_of_getElem? (i := 24) rfl)) e0 (g := (mkF m 1 #[.val (.int x1)] [(.int (1 : Int32))])) rfl (hb hby d19_1) rfl (by decide) (cap := 1) (by decide) (by decide) (by decide) (by decide) (ad := "[B") (by decide)
  obtain ⟨d, g1⟩ : ∃ z, z = h0.size := ⟨_, rfl⟩
  rw [← g1] at A1 B1 st1
  refine Go.of st1 ?_
  have g_d : n0 ≤ d := Nat.le_trans Zs (Nat.le_of_eq g1.symm)
  have sz_d : h0.size ≤ d := Nat.le_trans Kp.1 (Nat.le_of_eq g1.symm)
  have Zs := Nat.le_trans Zs E1.1
  have Kp := Kp.ext E1
  have E_d := B1
  have A_d : AF Z h1 d k1 .byte 1 (fun i => .int ((fun _ => (0 : Int32)) i)) := AF.new A1 (by decide) rfl rfl
  show Go _ _ _ _ _ _ _ (T1.setTop (mkF m 3 #[.val (.int x1)] [(.ref d)]))
  refine Go.of (fun _ q => XS.dup X1.here hx rfl (hb hby d19_3) rfl rfl q) ?_
  show Go _ _ _ _ _ _ _ (T1.setTop (mkF m 4 #[.val (.int x1)] [(.ref d), (.ref d)]))
  refine Go.of (fun _ q => XS.iconst X1.here hx rfl (hb hby d19_4) q) ?_
  show Go _ _ _ _ _ _ _ (T1.setTop (mkF m 5 #[.val (.int x1)] [(.int (0 : Int32)), (.ref d), (.ref d)]))
  refine Go.of (fun _ q => XS.iloadN X1.here hx rfl (hb hby d19_5) rfl q) ?_
  show Go _ _ _ _ _ _ _ (T1.setTop (mkF m 6 #[.val (.int x1)] [(.int x1), (.int (0 : Int32)), (.ref d), (.ref d)]))
  refine Go.of (fun _ q => XS.i2b X1.here hx rfl (hb hby d19_6) rfl q) ?_
  show Go _ _ _ _ _ _ _ (T1.setTop (mkF m 7 #[.val (.int x1)] [(.int (x1.toInt8.toInt32)), (.int (0 : Int32)), (.ref d), (.ref d)]))
  obtain ⟨T2, h2, X2, e2, W2, A2', st2⟩ := AF.bastore A_d X1 hx hZ e1 (i := 0) ⟨rfl, by decide, by decide⟩ (g := (mkF m 7 #[.val (.int x1)] [(.int (x1.toInt8.toInt32)), (.int (0 : Int32)), (.ref d), (.ref d)])) rfl rfl (hb hby d19_7)
  refine Go.of st2 ?_
  have Zs := Nat.le_trans Zs (Nat.le_of_eq W2.size.symm)
  have Kp := Kp.wr W2 (Or.inr sz_d)
  have E_d := E_d.wr W2
  have A_d : AF Z h2 d k1 .byte 1 (fun i => .int ((upI (fun _ => (0 : Int32)) 0 ((x1.toInt8.toInt32).toInt8.toInt32)) i)) := A2'.toI
  have N2 := Fr.snoc X2 N0 g_d
  show Go _ _ _ _ _ _ _ (T2.setTop (mkF m 8 #[.val (.int x1)] [(.ref d)]))
  refine Go.retA X2 hx hlk hret rfl rfl (hb hby d19_8) (by decide) (by decide) ?_
  rw [e2]
  exact ⟨d, k1, (upI (fun _ => (0 : Int32)) 0 ((x1.toInt8.toInt32).toInt8.toInt32)), rfl, N2, Kp, sz_d, A_d⟩
theorem d20_0 : decode jdk_42_method_151_code 0 = .ok (.aload_n 0, 1) := by decide +kernel
theorem d20_1 : decode jdk_42_method_151_code 1 = .ok (.invokespecial 1, 3) := by decide +kernel
theorem d20_4 : decode jdk_42_method_151_code 4 = .ok (.aload_n 0, 1) := by decide +kernel
theorem d20_5 : decode jdk_42_method_151_code 5 = .ok (.aload_n 1, 1) := by decide +kernel
theorem d20_6 : decode jdk_42_method_151_code 6 = .ok (.putfield 9, 3) := by decide +kernel
theorem d20_9 : decode jdk_42_method_151_code 9 = .ok (.aload_n 0, 1) := by decide +kernel
theorem d20_10 : decode jdk_42_method_151_code 10 = .ok (.iload_n 2, 1) := by decide +kernel
theorem d20_11 : decode jdk_42_method_151_code 11 = .ok (.putfield 15, 3) := by decide +kernel
theorem d20_14 : decode jdk_42_method_151_code 14 = .ok (.return_, 1) := by decide +kernel
theorem ef_20 (m : MethodId) (a : Addr) (b : Addr) : entryFrame m #[(.ref a), (.ref b), (.int (0 : Int32))] 3 = mkF m 0 #[.val (.ref a), .val (.ref b), .val (.int (0 : Int32))] [] := by first | (simp [entryFrame, mkF, argsToLocals, Value.category]; done) | rfl
def Q20 (Z : State) (a : Addr) (b : Addr) (u1 : Value) (u2 : Int32) (h0 : Heap) (n0 : Nat) (v : Option Value) (h : Heap) (L : List Loc) : Prop := v = none ∧ Fr n0 L ∧ Keep h0 h [a] ∧ Exa Z h a "java/lang/String" ∧ Fld Z h a "java/lang/String" "value" "[B" (.ref b) ∧ Fld Z h a "java/lang/String" "coder" "B" (.int (0 : Int32))
set_option maxRecDepth 65536 in
set_option maxHeartbeats 40000000 in
theorem rm20 (l : Launch) (Z : State) (a0 : Array Value) (hw : ∀ d ∈ tables_1, d.before a0 Z = true) (a : Addr) (b : Addr) (u1 : Value) (u2 : Int32) (h0 : Heap) (n0 : Nat) (Zs : n0 ≤ h0.size) (E_a : Exa Z h0 a "java/lang/String") (F_a_value : Fld Z h0 a "java/lang/String" "value" "[B" u1) (F_a_coder : Fld Z h0 a "java/lang/String" "coder" "B" (.int u2)) (g_a : n0 ≤ a) :
    Con l Z (⟨"java/lang/String", "<init>", "([BB)V"⟩ : MethodName) jdk_42_method_151_code 3 none ({ frames := 1, cells := 0, slots := 0, locals := 12 } : Room) #[(.ref a), (.ref b), (.int (0 : Int32))] h0 (Q20 Z a b u1 u2 h0 n0) := by
  refine Con.intro (plainFor_of_name pn0) (fun m => ef_20 m a b) ?_
  intro p e s m below meth c s₁ hx hby hml0 hZ hown hnm hret hlk X0 e0
  have hml : c.maxLocals = 3 := hml0
  have N0 := Fr.nil n0
  have Kp : Keep h0 h0 [a] := Keep.refl h0 _
  show Go _ _ _ _ _ _ _ (s₁.setTop (mkF m 0 #[.val (.ref a), .val (.ref b), .val (.int (0 : Int32))] []))
  refine Go.of (fun _ q => XS.aloadN X0.here hx rfl (hb hby d20_0) rfl rfl q) ?_
  show Go _ _ _ _ _ _ _ (s₁.setTop (mkF m 1 #[.val (.ref a), .val (.ref b), .val (.int (0 : Int32))] [(.ref a)]))
  obtain ⟨T1, X1, e1, st1⟩ := initO X0 hx hZ hown (hw _ (List.mem_of_getElem? (i := 16) rfl)) (hw _ (List.mem_of_getElem? (i := 17) rfl)) (hw _ (List.mem_of_getElem? (i := 18) rfl)) e0 (g := (mkF m 1 #[.val (.ref a), .val (.ref b), .val (.int (0 : Int32))] [(.ref a)])) rfl (by rw [hml]; rfl) rfl (hb hby d20_1) (by decide) (W := 0) (by show 2 * 0 + _ ≤ _; exact Nat.le_of_eq rfl) (by decide)
  refine Go.of st1 ?_
  show Go _ _ _ _ _ _ _ (T1.setTop (mkF m 4 #[.val (.ref a), .val (.ref b), .val (.int (0 : Int32))] []))
  refine Go.of (fun _ q => XS.aloadN X1.here hx rfl (hb hby d20_4) rfl rfl q) ?_
  show Go _ _ _ _ _ _ _ (T1.setTop (mkF m 5 #[.val (.ref a), .val (.ref b), .val (.int (0 : Int32))] [(.ref a)]))
  refine Go.of (fun _ q => XS.aloadN X1.here hx rfl (hb hby d20_5) rfl rfl q) ?_
  show Go _ _ _ _ _ _ _ (T1.setTop (mkF m 6 #[.val (.ref a), .val (.ref b), .val (.int (0 : Int32))] [(.ref b), (.ref a)]))
  obtain ⟨T2, h2, X2, e2, W2, st2⟩ := putF X1 hx hZ hown (host := "") (Or.inl (hw _ (List.mem_of_getElem? (i := 33) rfl))) Via.refl e1 F_a_value E_a (Or.inr ⟨(hw _ (List.mem_of_getElem? (i := 34) rfl)), rfl, hnm⟩) (hw _ (List.mem_of_getElem? (i := 6) rfl)) (ty := (.array .byte)) (by decide) rfl rfl (g := (mkF m 6 #[.val (.ref a), .val (.ref b), .val (.int (0 : Int32))] [(.ref b), (.ref a)])) rfl rfl (hb hby d20_6)
  refine Go.of st2 ?_
  have Zs := Nat.le_trans Zs (Nat.le_of_eq W2.size.symm)
  have Kp := Kp.wr W2 (Or.inl (List.mem_of_getElem? (i := 0) rfl))
  have E_a := E_a.wr W2
  have F_a_value := F_a_value.same W2
  have F_a_coder := F_a_coder.other W2 (Or.inr (slot_ne (Or.inr (hw _ (List.mem_of_getElem? (i := 32) rfl))) (Or.inr (hw _ (List.mem_of_getElem? (i := 34) rfl))) (by decide) (t := .byte) (t' := (.array .byte)) (by decide) (by decide)))
  have N2 := Fr.snoc X2 N0 g_a
  show Go _ _ _ _ _ _ _ (T2.setTop (mkF m 9 #[.val (.ref a), .val (.ref b), .val (.int (0 : Int32))] []))
  refine Go.of (fun _ q => XS.aloadN X2.here hx rfl (hb hby d20_9) rfl rfl q) ?_
  show Go _ _ _ _ _ _ _ (T2.setTop (mkF m 10 #[.val (.ref a), .val (.ref b), .val (.int (0 : Int32))] [(.ref a)]))
  refine Go.of (fun _ q => XS.iloadN X2.here hx rfl (hb hby d20_10) rfl q) ?_
  show Go _ _ _ _ _ _ _ (T2.setTop (mkF m 11 #[.val (.ref a), .val (.ref b), .val (.int (0 : Int32))] [(.int (0 : Int32)), (.ref a)]))
  obtain ⟨T3, h3, X3, e3, W3, st3⟩ := putFN X2 hx hZ hown (hw _ (List.mem_of_getElem? (i := 31) rfl)) Via.refl e2 F_a_coder E_a (Or.inr ⟨(hw _ (List.mem_of_getElem? (i := 32) rfl)), rfl, hnm⟩) (hw _ (List.mem_of_getElem? (i := 6) rfl)) (ty := .byte) (v' := .int (0 : Int32)) (by decide) rfl rfl (g := (mkF m 11 #[.val (.ref a), .val (.ref b), .val (.int (0 : Int32))] [(.int (0 : Int32)), (.ref a)])) rfl rfl (hb hby d20_11)
  refine Go.of st3 ?_
  have Zs := Nat.le_trans Zs (Nat.le_of_eq W3.size.symm)
  have Kp := Kp.wr W3 (Or.inl (List.mem_of_getElem? (i := 0) rfl))
  have E_a := E_a.wr W3
  have F_a_value := F_a_value.other W3 (Or.inr (slot_ne (Or.inr (hw _ (List.mem_of_getElem? (i := 34) rfl))) (Or.inr (hw _ (List.mem_of_getElem? (i := 32) rfl))) (by decide) (t := (.array .byte)) (t' := .byte) (by decide) (by decide)))
  have F_a_coder := F_a_coder.same W3
  have N3 := Fr.snoc X3 N2 g_a
  show Go _ _ _ _ _ _ _ (T3.setTop (mkF m 14 #[.val (.ref a), .val (.ref b), .val (.int (0 : Int32))] []))
  refine Go.retV X3 hx hlk hret (hb hby d20_14) (by decide) (by decide) ?_
  rw [e3]
  exact ⟨rfl, N3, Kp, E_a, F_a_value, F_a_coder⟩
theorem pd7 : parseMethodDescriptor "(C)Z" = some ⟨[.char], some .boolean⟩ := by decide +kernel
theorem pd8 : parseMethodDescriptor "(C)[B" = some ⟨[.char], some (.array .byte)⟩ := by decide +kernel
theorem pd9 : parseMethodDescriptor "([BB)V" = some ⟨[(.array .byte), .byte], none⟩ := by decide +kernel
theorem d17_0 : decode jdk_42_method_139_code 0 = .ok (.getstatic 38, 3) := by decide +kernel
theorem d17_3 : decode jdk_42_method_139_code 3 = .ok (.ifCond .eq 23, 3) := by decide +kernel
theorem d17_6 : decode jdk_42_method_139_code 6 = .ok (.iload_n 0, 1) := by decide +kernel
theorem d17_7 : decode jdk_42_method_139_code 7 = .ok (.invokestatic 1015, 3) := by decide +kernel
theorem d17_10 : decode jdk_42_method_139_code 10 = .ok (.ifCond .eq 16, 3) := by decide +kernel
theorem d17_13 : decode jdk_42_method_139_code 13 = .ok (.new 10, 3) := by decide +kernel
theorem d17_16 : decode jdk_42_method_139_code 16 = .ok (.dup, 1) := by decide +kernel
theorem d17_17 : decode jdk_42_method_139_code 17 = .ok (.iload_n 0, 1) := by decide +kernel
theorem d17_18 : decode jdk_42_method_139_code 18 = .ok (.invokestatic 1018, 3) := by decide +kernel
theorem d17_21 : decode jdk_42_method_139_code 21 = .ok (.iconst 0, 1) := by decide +kernel
theorem d17_22 : decode jdk_42_method_139_code 22 = .ok (.invokespecial 209, 3) := by decide +kernel
theorem d17_25 : decode jdk_42_method_139_code 25 = .ok (.areturn, 1) := by decide +kernel
theorem ef_17 (m : MethodId) (x1 : Int32) : entryFrame m #[(.int x1)] 1 = mkF m 0 #[.val (.int x1)] [] := by first | (simp [entryFrame, mkF, argsToLocals, Value.category]; done) | rfl
def Q17 (Z : State) (x1 : Int32) (cs : Int32) (h0 : Heap) (n0 : Nat) (v : Option Value) (h : Heap) (L : List Loc) : Prop := ∃ sa : Addr, ∃ d : Addr, ∃ kd : ClassId, ∃ gd : Nat → Int32, v = some (.ref sa) ∧ Fr n0 L ∧ Keep h0 h [] ∧ h0.size ≤ sa ∧ Exa Z h sa "java/lang/String" ∧ Fld Z h sa "java/lang/String" "value" "[B" (.ref d) ∧ Fld Z h sa "java/lang/String" "coder" "B" (.int (0 : Int32)) ∧ AF Z h d kd .byte 1 (fun i => .int (gd i))
set_option maxRecDepth 65536 in
set_option maxHeartbeats 40000000 in
theorem rm17 (l : Launch) (Z : State) (a0 : Array Value) (hw : ∀ d ∈ tables_1, d.before a0 Z = true) (x1 : Int32) (cs : Int32) (h0 : Heap) (n0 : Nat) (Zs : n0 ≤ h0.size) (Od : Old Z n0 h0) (hx1 : ¬ (255 : Int32) < x1) (Scs : Sta Z Z.heap "java/lang/String" "COMPACT_STRINGS" "Z" (.int cs)) (hcs : ¬ cs = (0 : Int32)) :
    Con l Z (⟨"java/lang/String", "valueOf", "(C)Ljava/lang/String;"⟩ : MethodName) jdk_42_method_139_code 1 (some (.object "java/lang/String")) ({ frames := 2, cells := 2, slots := 5, locals := 27 } : Room) #[(.int x1)] h0 (Q17 Z x1 cs h0 n0) := by
  refine Con.intro (plainFor_of_name pn0) (fun m => ef_17 m x1) ?_
  intro p e s m below meth c s₁ hx hby hml0 hZ hown hnm hret hlk X0 e0
  have hml : c.maxLocals = 1 := hml0
  have N0 := Fr.nil n0
  have Kp : Keep h0 h0 [] := Keep.refl h0 _
  show Go _ _ _ _ _ _ _ (s₁.setTop (mkF m 0 #[.val (.int x1)] []))
  obtain ⟨T1, X1, e1, st1⟩ := getS2 X0 hx hZ hown (host := "") (Or.inl (hw _ (List.mem_of_getElem? (i := 19) rfl))) Via.refl e0 (Sta.ext Od.2 Scs) (g := (mkF m 0 #[.val (.int x1)] [])) rfl (hb hby d17_0)
  refine Go.of st1 ?_
  show Go _ _ _ _ _ _ _ (T1.setTop (mkF m 3 #[.val (.int x1)] [(.int cs)]))
  refine Go.of (fun _ q => XS.ifNo X1.here hx rfl (hb hby d17_3) rfl ((if0 _ _).trans (feq hcs).1) q) ?_
  show Go _ _ _ _ _ _ _ (T1.setTop (mkF m 6 #[.val (.int x1)] []))
  refine Go.of (fun _ q => XS.iloadN X1.here hx rfl (hb hby d17_6) rfl q) ?_
  show Go _ _ _ _ _ _ _ (T1.setTop (mkF m 7 #[.val (.int x1)] [(.int x1)]))
  refine Go.static X1 hx hZ (y := (⟨"java/lang/StringLatin1", "canEncode", "(C)Z"⟩ : MethodName)) (argsL := [(.int x1)]) hown (hw _ (List.mem_of_getElem? (i := 77) rfl)) (hw _ (List.mem_of_getElem? (i := 78) rfl)) (hw _ (List.mem_of_getElem? (i := 64) rfl)) (hw _ (List.mem_of_getElem? (i := 79) rfl)) (by decide) 0 e1 (rm18 l Z a0 hw x1 h0 n0 Zs hx1) (by decide) (by decide) (by decide) (by decide) (g := (mkF m 7 #[.val (.int x1)] [(.int x1)])) rfl (by rw [hml]; rfl) (rest := []) (lenOf pd7 rfl) rfl (by show 2 * 0 + _ ≤ _; exact Nat.le_of_eq rfl) (hb hby d17_7) ?_
  intro T2 v2 L2 X2 q2
  obtain ⟨rfl, Nq2, e2⟩ := q2
  have N2 := Fr.app N0 Nq2
  show Go _ _ _ _ _ _ _ (T2.setTop (mkF m 10 #[.val (.int x1)] [(.int (1 : Int32))]))
  refine Go.of (fun _ q => XS.ifNo X2.here hx rfl (hb hby d17_10) rfl ((if0 _ _).trans (feq (by decide)).1) q) ?_
  show Go _ _ _ _ _ _ _ (T2.setTop (mkF m 13 #[.val (.int x1)] []))
  obtain ⟨T3, h3, X3, e3, E3, A3, D3, -, st3⟩ := newO X2 hx hZ hown (hw _ (List.mem_of_getElem? (i := 80) rfl)) (hw _ (List.mem_of_getElem? (i := 6) rfl)) (hw _ (List.mem_of_getElem? (i := 7) rfl)) e2 (g := (mkF m 13 #[.val (.int x1)] [])) rfl (hb hby d17_13) (by decide) (by decide)
  obtain ⟨sa, g3⟩ : ∃ z, z = h0.size := ⟨_, rfl⟩
  rw [← g3] at A3 D3 st3
  refine Go.of st3 ?_
  have g_sa : n0 ≤ sa := Nat.le_trans Zs (Nat.le_of_eq g3.symm)
  have sz_sa : h0.size ≤ sa := Nat.le_trans Kp.1 (Nat.le_of_eq g3.symm)
  have Zs := Nat.le_trans Zs E3.1
  have Kp := Kp.ext E3
  have Od := Od.ext E3
  have E_sa := A3
  have F_sa_coder : Fld Z h3 sa "java/lang/String" "coder" "B" (.int (0 : Int32)) := D3 (Or.inr (hw _ (List.mem_of_getElem? (i := 32) rfl))) (ty := .byte) (by decide)
  have F_sa_value : Fld Z h3 sa "java/lang/String" "value" "[B" .null := D3 (Or.inr (hw _ (List.mem_of_getElem? (i := 34) rfl))) (ty := (.array .byte)) (by decide)
  show Go _ _ _ _ _ _ _ (T3.setTop (mkF m 16 #[.val (.int x1)] [(.ref sa)]))
  refine Go.of (fun _ q => XS.dup X3.here hx rfl (hb hby d17_16) rfl rfl q) ?_
  show Go _ _ _ _ _ _ _ (T3.setTop (mkF m 17 #[.val (.int x1)] [(.ref sa), (.ref sa)]))
  refine Go.of (fun _ q => XS.iloadN X3.here hx rfl (hb hby d17_17) rfl q) ?_
  show Go _ _ _ _ _ _ _ (T3.setTop (mkF m 18 #[.val (.int x1)] [(.int x1), (.ref sa), (.ref sa)]))
  refine Go.static X3 hx hZ (y := (⟨"java/lang/StringLatin1", "toBytes", "(C)[B"⟩ : MethodName)) (argsL := [(.int x1)]) hown (hw _ (List.mem_of_getElem? (i := 81) rfl)) (hw _ (List.mem_of_getElem? (i := 82) rfl)) (hw _ (List.mem_of_getElem? (i := 64) rfl)) (hw _ (List.mem_of_getElem? (i := 83) rfl)) (by decide) 2 e3 (rm19 l Z a0 hw x1 h3 n0 Zs ) (by decide) (by decide) (by decide) (by decide) (g := (mkF m 18 #[.val (.int x1)] [(.int x1), (.ref sa), (.ref sa)])) rfl (by rw [hml]; rfl) (rest := [(.ref sa), (.ref sa)]) (lenOf pd8 rfl) rfl (by show 2 * 0 + _ ≤ _; exact Nat.le_of_eq rfl) (hb hby d17_18) ?_
  intro T4 v4 L4 X4 q4
  obtain ⟨d, kd0, gd0, rfl, Nq4, K4, f4_0, f4_1⟩ := q4
  have N4 := Fr.app N2 Nq4
  have g_d : n0 ≤ d := Nat.le_trans Zs f4_0
  have sz_d : h0.size ≤ d := Nat.le_trans Kp.1 f4_0
  have ne_sa_d : sa ≠ d := Nat.ne_of_lt (Nat.lt_of_lt_of_le E_sa.lt f4_0)
  have Zs := Nat.le_trans Zs K4.1
  have Kp := Kp.trans K4 all0
  have Od := Od.keep K4 all0
  have E_sa := E_sa.keep K4
  have F_sa_coder := F_sa_coder.keep K4 nin0
  have F_sa_value := F_sa_value.keep K4 nin0
  have A_d := f4_1
  show Go _ _ _ _ _ _ _ (T4.setTop (mkF m 21 #[.val (.int x1)] [(.ref d), (.ref sa), (.ref sa)]))
  refine Go.of (fun _ q => XS.iconst X4.here hx rfl (hb hby d17_21) q) ?_
  show Go _ _ _ _ _ _ _ (T4.setTop (mkF m 22 #[.val (.int x1)] [(.int (0 : Int32)), (.ref d), (.ref sa), (.ref sa)]))
  refine Go.special X4 hx hZ (y := (⟨"java/lang/String", "<init>", "([BB)V"⟩ : MethodName)) (a := sa) (argsL := [(.ref d), (.int (0 : Int32))]) rfl hown (hw _ (List.mem_of_getElem? (i := 84) rfl)) (hw _ (List.mem_of_getElem? (i := 85) rfl)) (hw _ (List.mem_of_getElem? (i := 7) rfl)) (hw _ (List.mem_of_getElem? (i := 86) rfl)) (by decide) 1 rfl (rm20 l Z a0 hw sa d .null (0 : Int32) T4.heap n0 Zs E_sa F_sa_value F_sa_coder g_sa) (by decide) (by decide) (by decide) (by decide) (g := (mkF m 22 #[.val (.int x1)] [(.int (0 : Int32)), (.ref d), (.ref sa), (.ref sa)])) rfl (by rw [hml]; rfl) (rest := [(.ref sa)]) (lenOf pd9 rfl) rfl (by show 2 * 0 + _ ≤ _; exact Nat.le_of_eq rfl) (hb hby d17_22) ?_
  intro T5 v5 L5 X5 q5
  obtain ⟨rfl, Nq5, K5, f5_0, f5_1, f5_2⟩ := q5
  have N5 := Fr.app N4 Nq5
  have Zs := Nat.le_trans Zs K5.1
  have Kp := Kp.trans K5 (allS (P := fun x => x ∈ [] ∨ h0.size ≤ x) (Or.inr sz_sa) all0)
  have Od := Od.keep K5 (allS (P := fun x => n0 ≤ x) g_sa all0)
  have E_sa := E_sa.keep K5
  have A_d := A_d.keep K5 (ninS (Ne.symm ne_sa_d) nin0)
  have F_sa_value := f5_1
  have F_sa_coder := f5_2
  show Go _ _ _ _ _ _ _ (T5.setTop (mkF m 25 #[.val (.int x1)] [(.ref sa)]))
  refine Go.retA X5 hx hlk hret rfl rfl (hb hby d17_25) (by decide) (by decide) ?_
  exact ⟨sa, d, kd0, gd0, rfl, N5, Kp, sz_sa, E_sa, F_sa_value, F_sa_coder, A_d⟩
theorem d3_0 : decode jdk_42_method_149_code 0 = .ok (.aload_n 0, 1) := by decide +kernel
theorem d3_1 : decode jdk_42_method_149_code 1 = .ok (.invokespecial 1, 3) := by decide +kernel
theorem d3_4 : decode jdk_42_method_149_code 4 = .ok (.iload_n 3, 1) := by decide +kernel
theorem d3_5 : decode jdk_42_method_149_code 5 = .ok (.ifCond .ne 22, 3) := by decide +kernel
theorem d3_8 : decode jdk_42_method_149_code 8 = .ok (.aload_n 0, 1) := by decide +kernel
theorem d3_9 : decode jdk_42_method_149_code 9 = .ok (.ldc 7, 2) := by decide +kernel
theorem d3_11 : decode jdk_42_method_149_code 11 = .ok (.getfield 9, 3) := by decide +kernel
theorem d3_14 : decode jdk_42_method_149_code 14 = .ok (.putfield 9, 3) := by decide +kernel
theorem d3_17 : decode jdk_42_method_149_code 17 = .ok (.aload_n 0, 1) := by decide +kernel
theorem d3_18 : decode jdk_42_method_149_code 18 = .ok (.ldc 7, 2) := by decide +kernel
theorem d3_20 : decode jdk_42_method_149_code 20 = .ok (.getfield 15, 3) := by decide +kernel
theorem d3_23 : decode jdk_42_method_149_code 23 = .ok (.putfield 15, 3) := by decide +kernel
theorem d3_26 : decode jdk_42_method_149_code 26 = .ok (.return_, 1) := by decide +kernel
theorem ef_3_0 (m : MethodId) (a : Addr) (b : Addr) : entryFrame m #[(.ref a), (.ref b), (.int (0 : Int32)), (.int (0 : Int32)), .null] 6 = mkF m 0 #[.val (.ref a), .val (.ref b), .val (.int (0 : Int32)), .val (.int (0 : Int32)), .val .null, .unset] [] := by first | (simp [entryFrame, mkF, argsToLocals, Value.category]; done) | rfl
def Q3_0 (Z : State) (a : Addr) (b : Addr) (kb : ClassId) (gb : Nat → Int32) (h0 : Heap) (n0 : Nat) (v : Option Value) (h : Heap) (vm : Vm) (L : List Loc) : Prop := ∃ d : Addr, ∃ kd : ClassId, ∃ gd : Nat → Int32, v = none ∧ Fr n0 L ∧ Keep h0 h [a] ∧ Exa Z h a "java/lang/String" ∧ Fld Z h a "java/lang/String" "value" "[B" (.ref d) ∧ Fld Z h a "java/lang/String" "coder" "B" (.int (0 : Int32)) ∧ AF Z h d kd .byte 0 (fun i => .int (gd i))
set_option maxRecDepth 65536 in
set_option maxHeartbeats 40000000 in
theorem rm3_0 (l : Launch) (Z : State) (a0 : Array Value) (hw : ∀ d ∈ tables_1, d.before a0 Z = true) (a : Addr) (b : Addr) (kb : ClassId) (gb : Nat → Int32) (h0 : Heap) (n0 : Nat) (Zs : n0 ≤ h0.size) (Od : Old Z n0 h0) (E_a : Exa Z h0 a "java/lang/String") (F_a_value : Fld Z h0 a "java/lang/String" "value" "[B" .null) (F_a_coder : Fld Z h0 a "java/lang/String" "coder" "B" (.int (0 : Int32))) (g_a : n0 ≤ a) (A_b : AF Z h0 b kb .char 0 (fun i => .int (gb i))) (ne_b_a : b ≠ a) (hheld : Jvm.Lit.constHeld Z "java/lang/String" 7) (hcomp : Jvm.Lit.compactW.before a0 Z = true) :
    ConW l Z (⟨"java/lang/String", "<init>", "([CIILjava/lang/Void;)V"⟩ : MethodName) jdk_42_method_149_code 6 none ({ frames := 1, cells := 2, slots := 4, locals := 12 } : Room) #[(.ref a), (.ref b), (.int (0 : Int32)), (.int (0 : Int32)), .null] h0 (fun vm => vm.interned = Z.vm.interned) (Q3_0 Z a b kb gb h0 n0) := by
  refine ConW.intro (plainFor_of_name pn0) (fun m => ef_3_0 m a b) ?_
  intro p e s m below meth c s₁ hx hby hml0 hZ hown hnm hret hlk X0 e0 hs0 hV hS
  have hk : 0 ≤ h0.size := Nat.zero_le _
  have hml : c.maxLocals = 6 := hml0
  have N0 := Fr.nil n0
  have Kp : Keep h0 h0 [a] := Keep.refl h0 _
  show GoW _ _ _ _ _ _ _ (s₁.setTop (mkF m 0 #[.val (.ref a), .val (.ref b), .val (.int (0 : Int32)), .val (.int (0 : Int32)), .val .null, .unset] []))
  refine GoW.of (fun _ q => XS.aloadN X0.here hx rfl (hb hby d3_0) rfl rfl q) ?_
  show GoW _ _ _ _ _ _ _ (s₁.setTop (mkF m 1 #[.val (.ref a), .val (.ref b), .val (.int (0 : Int32)), .val (.int (0 : Int32)), .val .null, .unset] [(.ref a)]))
  obtain ⟨T1, X1, e1, st1⟩ := initO X0 hx hZ hown (hw _ (List.mem_of_getElem? (i := 16) rfl)) (hw _ (List.mem_of_getElem? (i := 17) rfl)) (hw _ (List.mem_of_getElem? (i := 18) rfl)) e0 (g := (mkF m 1 #[.val (.ref a), .val (.ref b), .val (.int (0 : Int32)), .val (.int (0 : Int32)), .val .null, .unset] [(.ref a)])) rfl (by rw [hml]; rfl) rfl (hb hby d3_1) (by decide) (W := 0) (by show 2 * 0 + _ ≤ _; exact Nat.le_of_eq rfl) (by decide)
  refine GoW.of st1 ?_
  show GoW _ _ _ _ _ _ _ (T1.setTop (mkF m 4 #[.val (.ref a), .val (.ref b), .val (.int (0 : Int32)), .val (.int (0 : Int32)), .val .null, .unset] []))
  refine GoW.of (fun _ q => XS.iloadN X1.here hx rfl (hb hby d3_4) rfl q) ?_
  show GoW _ _ _ _ _ _ _ (T1.setTop (mkF m 5 #[.val (.ref a), .val (.ref b), .val (.int (0 : Int32)), .val (.int (0 : Int32)), .val .null, .unset] [(.int (0 : Int32))]))
  refine GoW.of (fun _ q => XS.ifNo X1.here hx rfl (hb hby d3_5) rfl ((if0 _ _).trans (teq rfl).2) q) ?_
  show GoW _ _ _ _ _ _ _ (T1.setTop (mkF m 8 #[.val (.ref a), .val (.ref b), .val (.int (0 : Int32)), .val (.int (0 : Int32)), .val .null, .unset] []))
  refine GoW.of (fun _ q => XS.aloadN X1.here hx rfl (hb hby d3_8) rfl rfl q) ?_
  show GoW _ _ _ _ _ _ _ (T1.setTop (mkF m 9 #[.val (.ref a), .val (.ref b), .val (.int (0 : Int32)), .val (.int (0 : Int32)), .val .null, .unset] [(.ref a)]))
  obtain ⟨la2, T2, h2, k2, lb2, kb2, X2, e2, E2, hS, hk2, hZ, hown, EL2, FC2, FV2, VL2, lta2, ltb2, -, LI2, st2⟩ := ldcSVL X1 hx hZ hown (hw _ (List.mem_of_getElem? (i := 87) rfl)) (fun d hd => by simp only [Bundle.stringAtoms, Bundle.sN, List.mem_cons, List.not_mem_nil, or_false] at hd; rcases hd with rfl | rfl | rfl | rfl | rfl | rfl | rfl <;> first | exact (hw _ (List.mem_of_getElem? (i := 7) rfl)) | exact (hw _ (List.mem_of_getElem? (i := 6) rfl)) | exact (hw _ (List.mem_of_getElem? (i := 24) rfl)) | exact (hw _ (List.mem_of_getElem? (i := 34) rfl)) | exact (hw _ (List.mem_of_getElem? (i := 32) rfl)) | exact (hw _ (List.mem_of_getElem? (i := 88) rfl)) | exact (hw _ (List.mem_of_getElem? (i := 89) rfl))) e1 hS hk (Fr.nil _) (fun b cl q => by rw [hs0]; exact Od.2.2 b cl q) (⟨#[], by rw [hV]; simp, fun q hq => by simp at hq⟩ : IB Z s.vm []) (by simp) hheld hcomp (vs := []) (z := 0) ⟨by simp, rfl⟩ (by decide) rfl (g := (mkF m 9 #[.val (.ref a), .val (.ref b), .val (.int (0 : Int32)), .val (.int (0 : Int32)), .val .null, .unset] [(.ref a)])) rfl (hb hby d3_9) (n := 0) (by decide) (by decide) (by decide) (by decide)
  refine GoW.of st2 ?_
  have Zs := Nat.le_trans Zs E2.1
  have Kp := Kp.ext E2
  have hk := Nat.le_trans hk E2.1
  have Od := Od.ext E2
  have E_a := E_a.ext E2
  have F_a_value := F_a_value.ext E2
  have F_a_coder := F_a_coder.ext E2
  have A_b := A_b.ext E2
  have hk := hk2
  have E_la2 := EL2
  have F_la2_coder := FC2
  have F_la2_value := FV2
  have A_lb2 : AF Z h2 lb2 kb2 .byte 0 (fun i => .int ((fun _ => (0 : Int32)) i)) := AF.ofArv VL2 rfl (fun i hi => absurd hi (Nat.not_lt_zero _))
  have ne_la2_a : la2 ≠ a := fld_ne F_la2_value F_a_value nofun
  have ne_lb2_a : lb2 ≠ a := af0_ne A_lb2 F_a_value
  show GoW _ _ _ _ _ _ _ (T2.setTop (mkF m 11 #[.val (.ref a), .val (.ref b), .val (.int (0 : Int32)), .val (.int (0 : Int32)), .val .null, .unset] [(.ref la2), (.ref a)]))
  obtain ⟨T3, X3, e3, st3⟩ := getF X2 hx hZ hown (host := "") (Or.inl (hw _ (List.mem_of_getElem? (i := 33) rfl))) Via.refl e2 F_la2_value (g := (mkF m 11 #[.val (.ref a), .val (.ref b), .val (.int (0 : Int32)), .val (.int (0 : Int32)), .val .null, .unset] [(.ref la2), (.ref a)])) rfl rfl (hb hby d3_11)
  refine GoW.of st3 ?_
  show GoW _ _ _ _ _ _ _ (T3.setTop (mkF m 14 #[.val (.ref a), .val (.ref b), .val (.int (0 : Int32)), .val (.int (0 : Int32)), .val .null, .unset] [(.ref lb2), (.ref a)]))
  obtain ⟨T4, h4, X4, e4, W4, st4⟩ := putF X3 hx hZ hown (host := "") (Or.inl (hw _ (List.mem_of_getElem? (i := 33) rfl))) Via.refl e3 F_a_value E_a (Or.inr ⟨(hw _ (List.mem_of_getElem? (i := 34) rfl)), rfl, hnm⟩) (hw _ (List.mem_of_getElem? (i := 6) rfl)) (ty := (.array .byte)) (by decide) rfl rfl (g := (mkF m 14 #[.val (.ref a), .val (.ref b), .val (.int (0 : Int32)), .val (.int (0 : Int32)), .val .null, .unset] [(.ref lb2), (.ref a)])) rfl rfl (hb hby d3_14)
  refine GoW.of st4 ?_
  have Zs := Nat.le_trans Zs (Nat.le_of_eq W4.size.symm)
  have Kp := Kp.wr W4 (Or.inl (List.mem_of_getElem? (i := 0) rfl))
  have hk := Nat.le_trans hk (Nat.le_of_eq W4.size.symm)
  have Od := Od.wr W4 g_a
  have E_a := E_a.wr W4
  have F_a_value := F_a_value.same W4
  have F_a_coder := F_a_coder.other W4 (Or.inr (slot_ne (Or.inr (hw _ (List.mem_of_getElem? (i := 32) rfl))) (Or.inr (hw _ (List.mem_of_getElem? (i := 34) rfl))) (by decide) (t := .byte) (t' := (.array .byte)) (by decide) (by decide)))
  have A_b := A_b.other W4 ne_b_a
  have E_la2 := E_la2.wr W4
  have F_la2_coder := F_la2_coder.other W4 (Or.inl ne_la2_a)
  have F_la2_value := F_la2_value.other W4 (Or.inl ne_la2_a)
  have A_lb2 := A_lb2.other W4 ne_lb2_a
  have N4 := Fr.snoc X4 N0 g_a
  show GoW _ _ _ _ _ _ _ (T4.setTop (mkF m 17 #[.val (.ref a), .val (.ref b), .val (.int (0 : Int32)), .val (.int (0 : Int32)), .val .null, .unset] []))
  refine GoW.of (fun _ q => XS.aloadN X4.here hx rfl (hb hby d3_17) rfl rfl q) ?_
  show GoW _ _ _ _ _ _ _ (T4.setTop (mkF m 18 #[.val (.ref a), .val (.ref b), .val (.int (0 : Int32)), .val (.int (0 : Int32)), .val .null, .unset] [(.ref a)]))
  refine GoW.of (fun _ q => ldcAgain X4 hx hZ hown (hw _ (List.mem_of_getElem? (i := 87) rfl)) LI2 (g := (mkF m 18 #[.val (.ref a), .val (.ref b), .val (.int (0 : Int32)), .val (.int (0 : Int32)), .val .null, .unset] [(.ref a)])) rfl (hb hby d3_18) _ q) ?_
  show GoW _ _ _ _ _ _ _ (T4.setTop (mkF m 20 #[.val (.ref a), .val (.ref b), .val (.int (0 : Int32)), .val (.int (0 : Int32)), .val .null, .unset] [(.ref la2), (.ref a)]))
  obtain ⟨T5, X5, e5, st5⟩ := getF X4 hx hZ hown (host := "") (Or.inl (hw _ (List.mem_of_getElem? (i := 31) rfl))) Via.refl e4 F_la2_coder (g := (mkF m 20 #[.val (.ref a), .val (.ref b), .val (.int (0 : Int32)), .val (.int (0 : Int32)), .val .null, .unset] [(.ref la2), (.ref a)])) rfl rfl (hb hby d3_20)
  refine GoW.of st5 ?_
  show GoW _ _ _ _ _ _ _ (T5.setTop (mkF m 23 #[.val (.ref a), .val (.ref b), .val (.int (0 : Int32)), .val (.int (0 : Int32)), .val .null, .unset] [(.int (0 : Int32)), (.ref a)]))
  obtain ⟨T6, h6, X6, e6, W6, st6⟩ := putFN X5 hx hZ hown (hw _ (List.mem_of_getElem? (i := 31) rfl)) Via.refl e5 F_a_coder E_a (Or.inr ⟨(hw _ (List.mem_of_getElem? (i := 32) rfl)), rfl, hnm⟩) (hw _ (List.mem_of_getElem? (i := 6) rfl)) (ty := .byte) (v' := .int (0 : Int32)) (by decide) rfl rfl (g := (mkF m 23 #[.val (.ref a), .val (.ref b), .val (.int (0 : Int32)), .val (.int (0 : Int32)), .val .null, .unset] [(.int (0 : Int32)), (.ref a)])) rfl rfl (hb hby d3_23)
  refine GoW.of st6 ?_
  have Zs := Nat.le_trans Zs (Nat.le_of_eq W6.size.symm)
  have Kp := Kp.wr W6 (Or.inl (List.mem_of_getElem? (i := 0) rfl))
  have hk := Nat.le_trans hk (Nat.le_of_eq W6.size.symm)
  have Od := Od.wr W6 g_a
  have E_a := E_a.wr W6
  have F_a_value := F_a_value.other W6 (Or.inr (slot_ne (Or.inr (hw _ (List.mem_of_getElem? (i := 34) rfl))) (Or.inr (hw _ (List.mem_of_getElem? (i := 32) rfl))) (by decide) (t := (.array .byte)) (t' := .byte) (by decide) (by decide)))
  have F_a_coder := F_a_coder.same W6
  have A_b := A_b.other W6 ne_b_a
  have E_la2 := E_la2.wr W6
  have F_la2_coder := F_la2_coder.other W6 (Or.inl ne_la2_a)
  have F_la2_value := F_la2_value.other W6 (Or.inl ne_la2_a)
  have A_lb2 := A_lb2.other W6 ne_lb2_a
  have N6 := Fr.snoc X6 N4 g_a
  show GoW _ _ _ _ _ _ _ (T6.setTop (mkF m 26 #[.val (.ref a), .val (.ref b), .val (.int (0 : Int32)), .val (.int (0 : Int32)), .val .null, .unset] []))
  refine GoW.retV X6 hS (by rw [e6]; exact hk) hx hlk hret (hb hby d3_26) (by decide) (by decide) ?_
  rw [e6]
  exact ⟨lb2, kb2, (fun _ => (0 : Int32)), rfl, N6, Kp, E_a, F_a_value, F_a_coder, A_lb2⟩
theorem pd10 : parseMethodDescriptor "([CIILjava/lang/Void;)V" = some ⟨[(.array .char), .int, .int, (.object "java/lang/Void")], none⟩ := by decide +kernel
theorem d2_0 : decode jdk_42_method_3_code 0 = .ok (.aload_n 0, 1) := by decide +kernel
theorem d2_1 : decode jdk_42_method_3_code 1 = .ok (.aload_n 1, 1) := by decide +kernel
theorem d2_2 : decode jdk_42_method_3_code 2 = .ok (.iconst 0, 1) := by decide +kernel
theorem d2_3 : decode jdk_42_method_3_code 3 = .ok (.aload_n 1, 1) := by decide +kernel
theorem d2_4 : decode jdk_42_method_3_code 4 = .ok (.arraylength, 1) := by decide +kernel
theorem d2_5 : decode jdk_42_method_3_code 5 = .ok (.aconst_null, 1) := by decide +kernel
theorem d2_6 : decode jdk_42_method_3_code 6 = .ok (.invokespecial 27, 3) := by decide +kernel
theorem d2_9 : decode jdk_42_method_3_code 9 = .ok (.return_, 1) := by decide +kernel
theorem ef_2_0 (m : MethodId) (a : Addr) (b : Addr) : entryFrame m #[(.ref a), (.ref b)] 2 = mkF m 0 #[.val (.ref a), .val (.ref b)] [] := by first | (simp [entryFrame, mkF, argsToLocals, Value.category]; done) | rfl
def Q2_0 (Z : State) (a : Addr) (b : Addr) (kb : ClassId) (gb : Nat → Int32) (h0 : Heap) (n0 : Nat) (v : Option Value) (h : Heap) (vm : Vm) (L : List Loc) : Prop := ∃ d : Addr, ∃ kd : ClassId, ∃ gd : Nat → Int32, v = none ∧ Fr n0 L ∧ Keep h0 h [a] ∧ Exa Z h a "java/lang/String" ∧ Fld Z h a "java/lang/String" "value" "[B" (.ref d) ∧ Fld Z h a "java/lang/String" "coder" "B" (.int (0 : Int32)) ∧ AF Z h d kd .byte 0 (fun i => .int (gd i))
set_option maxRecDepth 65536 in
set_option maxHeartbeats 40000000 in
theorem rm2_0 (l : Launch) (Z : State) (a0 : Array Value) (hw : ∀ d ∈ tables_1, d.before a0 Z = true) (a : Addr) (b : Addr) (kb : ClassId) (gb : Nat → Int32) (h0 : Heap) (n0 : Nat) (Zs : n0 ≤ h0.size) (Od : Old Z n0 h0) (E_a : Exa Z h0 a "java/lang/String") (F_a_value : Fld Z h0 a "java/lang/String" "value" "[B" .null) (F_a_coder : Fld Z h0 a "java/lang/String" "coder" "B" (.int (0 : Int32))) (g_a : n0 ≤ a) (A_b : AF Z h0 b kb .char 0 (fun i => .int (gb i))) (ne_b_a : b ≠ a) (hheld : Jvm.Lit.constHeld Z "java/lang/String" 7) (hcomp : Jvm.Lit.compactW.before a0 Z = true) :
    ConW l Z (⟨"java/lang/String", "<init>", "([C)V"⟩ : MethodName) jdk_42_method_3_code 2 none ({ frames := 2, cells := 2, slots := 4, locals := 29 } : Room) #[(.ref a), (.ref b)] h0 (fun vm => vm.interned = Z.vm.interned) (Q2_0 Z a b kb gb h0 n0) := by
  refine ConW.intro (plainFor_of_name pn0) (fun m => ef_2_0 m a b) ?_
  intro p e s m below meth c s₁ hx hby hml0 hZ hown hnm hret hlk X0 e0 hs0 hV hS
  have hk : 0 ≤ h0.size := Nat.zero_le _
  have hml : c.maxLocals = 2 := hml0
  have N0 := Fr.nil n0
  have Kp : Keep h0 h0 [a] := Keep.refl h0 _
  show GoW _ _ _ _ _ _ _ (s₁.setTop (mkF m 0 #[.val (.ref a), .val (.ref b)] []))
  refine GoW.of (fun _ q => XS.aloadN X0.here hx rfl (hb hby d2_0) rfl rfl q) ?_
  show GoW _ _ _ _ _ _ _ (s₁.setTop (mkF m 1 #[.val (.ref a), .val (.ref b)] [(.ref a)]))
  refine GoW.of (fun _ q => XS.aloadN X0.here hx rfl (hb hby d2_1) rfl rfl q) ?_
  show GoW _ _ _ _ _ _ _ (s₁.setTop (mkF m 2 #[.val (.ref a), .val (.ref b)] [(.ref b), (.ref a)]))
  refine GoW.of (fun _ q => XS.iconst X0.here hx rfl (hb hby d2_2) q) ?_
  show GoW _ _ _ _ _ _ _ (s₁.setTop (mkF m 3 #[.val (.ref a), .val (.ref b)] [(.int (0 : Int32)), (.ref b), (.ref a)]))
  refine GoW.of (fun _ q => XS.aloadN X0.here hx rfl (hb hby d2_3) rfl rfl q) ?_
  show GoW _ _ _ _ _ _ _ (s₁.setTop (mkF m 4 #[.val (.ref a), .val (.ref b)] [(.ref b), (.int (0 : Int32)), (.ref b), (.ref a)]))
  refine GoW.of (fun _ q => AF.length A_b X0 hx hZ e0 rfl (g := (mkF m 4 #[.val (.ref a), .val (.ref b)] [(.ref b), (.int (0 : Int32)), (.ref b), (.ref a)])) rfl rfl (hb hby d2_4) q) ?_
  show GoW _ _ _ _ _ _ _ (s₁.setTop (mkF m 5 #[.val (.ref a), .val (.ref b)] [(.int (0 : Int32)), (.int (0 : Int32)), (.ref b), (.ref a)]))
  refine GoW.of (fun _ q => XS.aconstNull X0.here hx rfl (hb hby d2_5) q) ?_
  show GoW _ _ _ _ _ _ _ (s₁.setTop (mkF m 6 #[.val (.ref a), .val (.ref b)] [.null, (.int (0 : Int32)), (.int (0 : Int32)), (.ref b), (.ref a)]))
  refine GoW.specialW X0 hS hk hx hZ (y := (⟨"java/lang/String", "<init>", "([CIILjava/lang/Void;)V"⟩ : MethodName)) (a := a) (argsL := [(.ref b), (.int (0 : Int32)), (.int (0 : Int32)), .null]) rfl hown (hw _ (List.mem_of_getElem? (i := 12) rfl)) (hw _ (List.mem_of_getElem? (i := 13) rfl)) (hw _ (List.mem_of_getElem? (i := 7) rfl)) (hw _ (List.mem_of_getElem? (i := 15) rfl)) (by decide) 0 e0 (fun vm₁ hW => hW.interned_eq.trans hV) (rm3_0 l Z a0 hw a b kb gb h0 n0 Zs Od E_a F_a_value F_a_coder g_a A_b ne_b_a hheld hcomp) (by decide) (by decide) (by decide) (by decide) (g := (mkF m 6 #[.val (.ref a), .val (.ref b)] [.null, (.int (0 : Int32)), (.int (0 : Int32)), (.ref b), (.ref a)])) rfl (by rw [hml]; rfl) (rest := []) (lenOf pd10 rfl) rfl (by show 2 * 0 + _ ≤ _; exact Nat.le_of_eq rfl) (hb hby d2_6) ?_
  intro T1 v1 L1 X1 hS hZ hown q1
  obtain ⟨d, kd0, gd0, rfl, Nq1, K1, f1_0, f1_1, f1_2, f1_3⟩ := q1
  have N1 := Fr.app N0 Nq1
  have Zs := Nat.le_trans Zs K1.1
  have Kp := Kp.trans K1 (allS (P := fun x => x ∈ [a] ∨ h0.size ≤ x) (Or.inl (List.mem_of_getElem? (i := 0) rfl)) all0)
  have hk := Nat.le_trans hk K1.1
  have Od := Od.keep K1 (allS (P := fun x => n0 ≤ x) g_a all0)
  have E_a := E_a.keep K1
  have A_b := A_b.keep K1 (ninS ne_b_a nin0)
  have hk := Nat.le_refl T1.heap.size
  have F_a_value := f1_1
  have F_a_coder := f1_2
  have A_d := f1_3
  show GoW _ _ _ _ _ _ _ (T1.setTop (mkF m 9 #[.val (.ref a), .val (.ref b)] []))
  refine GoW.retV X1 hS hk hx hlk hret (hb hby d2_9) (by decide) (by decide) ?_
  exact ⟨d, kd0, gd0, rfl, N1, Kp, E_a, F_a_value, F_a_coder, A_d⟩
theorem pd11 : parseMethodDescriptor "([C)V" = some ⟨[(.array .char)], none⟩ := by decide +kernel
theorem d1_0 : decode method_3_code 0 = .ok (.iload_n 0, 1) := by decide +kernel
theorem d1_1 : decode method_3_code 1 = .ok (.ifCond .ne 14, 3) := by decide +kernel
theorem d1_4 : decode method_3_code 4 = .ok (.new 7, 3) := by decide +kernel
theorem d1_7 : decode method_3_code 7 = .ok (.dup, 1) := by decide +kernel
theorem d1_8 : decode method_3_code 8 = .ok (.iconst 0, 1) := by decide +kernel
theorem d1_9 : decode method_3_code 9 = .ok (.newarray .char, 2) := by decide +kernel
theorem d1_11 : decode method_3_code 11 = .ok (.invokespecial 9, 3) := by decide +kernel
theorem d1_14 : decode method_3_code 14 = .ok (.areturn, 1) := by decide +kernel
theorem ef_1_0 (m : MethodId) (x1 : Int32) (x2 : Int32) (x3 : Int32) (x4 : Int32) (x5 : Int32) : entryFrame m #[(.int (0 : Int32)), (.int x1), (.int x2), (.int x3), (.int x4), (.int x5)] 6 = mkF m 0 #[.val (.int (0 : Int32)), .val (.int x1), .val (.int x2), .val (.int x3), .val (.int x4), .val (.int x5)] [] := by first | (simp [entryFrame, mkF, argsToLocals, Value.category]; done) | rfl
def Q1_0 (Z : State) (x1 : Int32) (x2 : Int32) (x3 : Int32) (x4 : Int32) (x5 : Int32) (h0 : Heap) (n0 : Nat) (v : Option Value) (h : Heap) (vm : Vm) (L : List Loc) : Prop := ∃ sa : Addr, ∃ d : Addr, ∃ kd : ClassId, ∃ gd : Nat → Int32, v = some (.ref sa) ∧ Fr n0 L ∧ Keep h0 h [] ∧ h0.size ≤ sa ∧ Exa Z h sa "java/lang/String" ∧ Fld Z h sa "java/lang/String" "value" "[B" (.ref d) ∧ Fld Z h sa "java/lang/String" "coder" "B" (.int (0 : Int32)) ∧ AF Z h d kd .byte 0 (fun i => .int (gd i))
set_option maxRecDepth 65536 in
set_option maxHeartbeats 40000000 in
theorem rm1_0 (l : Launch) (Z : State) (a0 : Array Value) (hw : ∀ d ∈ tables_1, d.before a0 Z = true) (x1 : Int32) (x2 : Int32) (x3 : Int32) (x4 : Int32) (x5 : Int32) (h0 : Heap) (n0 : Nat) (Zs : n0 ≤ h0.size) (Od : Old Z n0 h0) (hheld : Jvm.Lit.constHeld Z "java/lang/String" 7) (hcomp : Jvm.Lit.compactW.before a0 Z = true) :
    ConW l Z (⟨"com/example/ddos_fee_ledger/ddosfeeledger/MoneyIsCurrencyPinLaw", "make", "(ICCCCC)Ljava/lang/String;"⟩ : MethodName) method_3_code 6 (some (.object "java/lang/String")) ({ frames := 3, cells := 4, slots := 8, locals := 43 } : Room) #[(.int (0 : Int32)), (.int x1), (.int x2), (.int x3), (.int x4), (.int x5)] h0 (fun vm => vm.interned = Z.vm.interned) (Q1_0 Z x1 x2 x3 x4 x5 h0 n0) := by
  refine ConW.intro (plainFor_of_name pn4) (fun m => ef_1_0 m x1 x2 x3 x4 x5) ?_
  intro p e s m below meth c s₁ hx hby hml0 hZ hown hnm hret hlk X0 e0 hs0 hV hS
  have hk : 0 ≤ h0.size := Nat.zero_le _
  have hml : c.maxLocals = 6 := hml0
  have N0 := Fr.nil n0
  have Kp : Keep h0 h0 [] := Keep.refl h0 _
  show GoW _ _ _ _ _ _ _ (s₁.setTop (mkF m 0 #[.val (.int (0 : Int32)), .val (.int x1), .val (.int x2), .val (.int x3), .val (.int x4), .val (.int x5)] []))
  refine GoW.of (fun _ q => XS.iloadN X0.here hx rfl (hb hby d1_0) rfl q) ?_
  show GoW _ _ _ _ _ _ _ (s₁.setTop (mkF m 1 #[.val (.int (0 : Int32)), .val (.int x1), .val (.int x2), .val (.int x3), .val (.int x4), .val (.int x5)] [(.int (0 : Int32))]))
  refine GoW.of (fun _ q => XS.ifNo X0.here hx rfl (hb hby d1_1) rfl ((if0 _ _).trans (teq rfl).2) q) ?_
  show GoW _ _ _ _ _ _ _ (s₁.setTop (mkF m 4 #[.val (.int (0 : Int32)), .val (.int x1), .val (.int x2), .val (.int x3), .val (.int x4), .val (.int x5)] []))
  obtain ⟨T1, h1, X1, e1, E1, A1, D1, -, st1⟩ := newO X0 hx hZ hown (hw _ (List.mem_of_getElem? (i := 5) rfl)) (hw _ (List.mem_of_getElem? (i := 6) rfl)) (hw _ (List.mem_of_getElem? (i := 7) rfl)) e0 (g := (mkF m 4 #[.val (.int (0 : Int32)), .val (.int x1), .val (.int x2), .val (.int x3), .val (.int x4), .val (.int x5)] [])) rfl (hb hby d1_4) (by decide) (by decide)
  obtain ⟨sa, g1⟩ : ∃ z, z = h0.size := ⟨_, rfl⟩
  rw [← g1] at A1 D1 st1
  refine GoW.of st1 ?_
  have g_sa : n0 ≤ sa := Nat.le_trans Zs (Nat.le_of_eq g1.symm)
  have sz_sa : h0.size ≤ sa := Nat.le_trans Kp.1 (Nat.le_of_eq g1.symm)
  have Zs := Nat.le_trans Zs E1.1
  have Kp := Kp.ext E1
  have hk := Nat.le_trans hk E1.1
  have Od := Od.ext E1
  have E_sa := A1
  have F_sa_coder : Fld Z h1 sa "java/lang/String" "coder" "B" (.int (0 : Int32)) := D1 (Or.inr (hw _ (List.mem_of_getElem? (i := 32) rfl))) (ty := .byte) (by decide)
  have F_sa_value : Fld Z h1 sa "java/lang/String" "value" "[B" .null := D1 (Or.inr (hw _ (List.mem_of_getElem? (i := 34) rfl))) (ty := (.array .byte)) (by decide)
  show GoW _ _ _ _ _ _ _ (T1.setTop (mkF m 7 #[.val (.int (0 : Int32)), .val (.int x1), .val (.int x2), .val (.int x3), .val (.int x4), .val (.int x5)] [(.ref sa)]))
  refine GoW.of (fun _ q => XS.dup X1.here hx rfl (hb hby d1_7) rfl rfl q) ?_
  show GoW _ _ _ _ _ _ _ (T1.setTop (mkF m 8 #[.val (.int (0 : Int32)), .val (.int x1), .val (.int x2), .val (.int x3), .val (.int x4), .val (.int x5)] [(.ref sa), (.ref sa)]))
  refine GoW.of (fun _ q => XS.iconst X1.here hx rfl (hb hby d1_8) q) ?_
  show GoW _ _ _ _ _ _ _ (T1.setTop (mkF m 9 #[.val (.int (0 : Int32)), .val (.int x1), .val (.int x2), .val (.int x3), .val (.int x4), .val (.int x5)] [(.int (0 : Int32)), (.ref sa), (.ref sa)]))
  obtain ⟨T2, h2, k2, X2, e2, E2, A2, B2, st2⟩ := newPE X1 hx hZ (hw _ (List.mem_of_getElem? (i := 8) rfl)) e1 (g := (mkF m 9 #[.val (.int (0 : Int32)), .val (.int x1), .val (.int x2), .val (.int x3), .val (.int x4), .val (.int x5)] [(.int (0 : Int32)), (.ref sa), (.ref sa)])) rfl (hb hby d1_9) rfl (by decide) (cap := 0) (by decide) (by decide) (by decide) (by decide) (ad := "[C") (by decide)
  obtain ⟨b, g2⟩ : ∃ z, z = h1.size := ⟨_, rfl⟩
  rw [← g2] at A2 B2 st2
  refine GoW.of st2 ?_
  have g_b : n0 ≤ b := Nat.le_trans Zs (Nat.le_of_eq g2.symm)
  have sz_b : h0.size ≤ b := Nat.le_trans Kp.1 (Nat.le_of_eq g2.symm)
  have ne_sa_b : sa ≠ b := Nat.ne_of_lt (Nat.lt_of_lt_of_le E_sa.lt (Nat.le_of_eq g2.symm))
  have Zs := Nat.le_trans Zs E2.1
  have Kp := Kp.ext E2
  have hk := Nat.le_trans hk E2.1
  have Od := Od.ext E2
  have E_sa := E_sa.ext E2
  have F_sa_coder := F_sa_coder.ext E2
  have F_sa_value := F_sa_value.ext E2
  have E_b := B2
  have A_b : AF Z h2 b k2 .char 0 (fun i => .int ((fun _ => (0 : Int32)) i)) := AF.new A2 (by decide) rfl rfl
  show GoW _ _ _ _ _ _ _ (T2.setTop (mkF m 11 #[.val (.int (0 : Int32)), .val (.int x1), .val (.int x2), .val (.int x3), .val (.int x4), .val (.int x5)] [(.ref b), (.ref sa), (.ref sa)]))
  refine GoW.specialW X2 hS hk hx hZ (y := (⟨"java/lang/String", "<init>", "([C)V"⟩ : MethodName)) (a := sa) (argsL := [(.ref b)]) rfl hown (hw _ (List.mem_of_getElem? (i := 9) rfl)) (hw _ (List.mem_of_getElem? (i := 10) rfl)) (hw _ (List.mem_of_getElem? (i := 7) rfl)) (hw _ (List.mem_of_getElem? (i := 11) rfl)) (by decide) 1 e2 (fun vm₁ hW => hW.interned_eq.trans hV) (rm2_0 l Z a0 hw sa b k2 (fun _ => (0 : Int32)) h2 n0 Zs Od E_sa F_sa_value F_sa_coder g_sa A_b (Ne.symm ne_sa_b) hheld hcomp) (by decide) (by decide) (by decide) (by decide) (g := (mkF m 11 #[.val (.int (0 : Int32)), .val (.int x1), .val (.int x2), .val (.int x3), .val (.int x4), .val (.int x5)] [(.ref b), (.ref sa), (.ref sa)])) rfl (by rw [hml]; rfl) (rest := [(.ref sa)]) (lenOf pd11 rfl) rfl (by show 2 * 0 + _ ≤ _; exact Nat.le_of_eq rfl) (hb hby d1_11) ?_
  intro T3 v3 L3 X3 hS hZ hown q3
  obtain ⟨d, kd0, gd0, rfl, Nq3, K3, f3_0, f3_1, f3_2, f3_3⟩ := q3
  have N3 := Fr.app N0 Nq3
  have Zs := Nat.le_trans Zs K3.1
  have Kp := Kp.trans K3 (allS (P := fun x => x ∈ [] ∨ h0.size ≤ x) (Or.inr sz_sa) all0)
  have hk := Nat.le_trans hk K3.1
  have Od := Od.keep K3 (allS (P := fun x => n0 ≤ x) g_sa all0)
  have E_sa := E_sa.keep K3
  have E_b := E_b.keep K3
  have A_b := A_b.keep K3 (ninS (Ne.symm ne_sa_b) nin0)
  have hk := Nat.le_refl T3.heap.size
  have F_sa_value := f3_1
  have F_sa_coder := f3_2
  have A_d := f3_3
  show GoW _ _ _ _ _ _ _ (T3.setTop (mkF m 14 #[.val (.int (0 : Int32)), .val (.int x1), .val (.int x2), .val (.int x3), .val (.int x4), .val (.int x5)] [(.ref sa)]))
  refine GoW.retA X3 hS hk hx hlk hret rfl rfl (hb hby d1_14) (by decide) (by decide) ?_
  exact ⟨sa, d, kd0, gd0, rfl, N3, Kp, sz_sa, E_sa, F_sa_value, F_sa_coder, A_d⟩
theorem pd12 : parseMethodDescriptor "(C)Ljava/lang/String;" = some ⟨[.char], some (.object "java/lang/String")⟩ := by decide +kernel
theorem d1_15 : decode method_3_code 15 = .ok (.iload_n 0, 1) := by decide +kernel
theorem d1_16 : decode method_3_code 16 = .ok (.iconst 1, 1) := by decide +kernel
theorem d1_17 : decode method_3_code 17 = .ok (.if_icmp .ne 8, 3) := by decide +kernel
theorem d1_20 : decode method_3_code 20 = .ok (.iload_n 1, 1) := by decide +kernel
theorem d1_21 : decode method_3_code 21 = .ok (.invokestatic 12, 3) := by decide +kernel
theorem d1_24 : decode method_3_code 24 = .ok (.areturn, 1) := by decide +kernel
theorem ef_1_1 (m : MethodId) (x1 : Int32) (x2 : Int32) (x3 : Int32) (x4 : Int32) (x5 : Int32) : entryFrame m #[(.int (1 : Int32)), (.int x1), (.int x2), (.int x3), (.int x4), (.int x5)] 6 = mkF m 0 #[.val (.int (1 : Int32)), .val (.int x1), .val (.int x2), .val (.int x3), .val (.int x4), .val (.int x5)] [] := by first | (simp [entryFrame, mkF, argsToLocals, Value.category]; done) | rfl
def Q1_1 (Z : State) (x1 : Int32) (x2 : Int32) (x3 : Int32) (x4 : Int32) (x5 : Int32) (cs : Int32) (h0 : Heap) (n0 : Nat) (v : Option Value) (h : Heap) (L : List Loc) : Prop := ∃ sa : Addr, ∃ d : Addr, ∃ kd : ClassId, ∃ gd : Nat → Int32, v = some (.ref sa) ∧ Fr n0 L ∧ Keep h0 h [] ∧ h0.size ≤ sa ∧ Exa Z h sa "java/lang/String" ∧ Fld Z h sa "java/lang/String" "value" "[B" (.ref d) ∧ Fld Z h sa "java/lang/String" "coder" "B" (.int (0 : Int32)) ∧ AF Z h d kd .byte 1 (fun i => .int (gd i))
set_option maxRecDepth 65536 in
set_option maxHeartbeats 40000000 in
theorem rm1_1 (l : Launch) (Z : State) (a0 : Array Value) (hw : ∀ d ∈ tables_1, d.before a0 Z = true) (x1 : Int32) (x2 : Int32) (x3 : Int32) (x4 : Int32) (x5 : Int32) (cs : Int32) (h0 : Heap) (n0 : Nat) (Zs : n0 ≤ h0.size) (Od : Old Z n0 h0) (hx1 : ¬ (255 : Int32) < x1) (Scs : Sta Z Z.heap "java/lang/String" "COMPACT_STRINGS" "Z" (.int cs)) (hcs : ¬ cs = (0 : Int32)) :
    Con l Z (⟨"com/example/ddos_fee_ledger/ddosfeeledger/MoneyIsCurrencyPinLaw", "make", "(ICCCCC)Ljava/lang/String;"⟩ : MethodName) method_3_code 6 (some (.object "java/lang/String")) ({ frames := 3, cells := 2, slots := 5, locals := 39 } : Room) #[(.int (1 : Int32)), (.int x1), (.int x2), (.int x3), (.int x4), (.int x5)] h0 (Q1_1 Z x1 x2 x3 x4 x5 cs h0 n0) := by
  refine Con.intro (plainFor_of_name pn4) (fun m => ef_1_1 m x1 x2 x3 x4 x5) ?_
  intro p e s m below meth c s₁ hx hby hml0 hZ hown hnm hret hlk X0 e0
  have hml : c.maxLocals = 6 := hml0
  have N0 := Fr.nil n0
  have Kp : Keep h0 h0 [] := Keep.refl h0 _
  show Go _ _ _ _ _ _ _ (s₁.setTop (mkF m 0 #[.val (.int (1 : Int32)), .val (.int x1), .val (.int x2), .val (.int x3), .val (.int x4), .val (.int x5)] []))
  refine Go.of (fun _ q => XS.iloadN X0.here hx rfl (hb hby d1_0) rfl q) ?_
  show Go _ _ _ _ _ _ _ (s₁.setTop (mkF m 1 #[.val (.int (1 : Int32)), .val (.int x1), .val (.int x2), .val (.int x3), .val (.int x4), .val (.int x5)] [(.int (1 : Int32))]))
  refine Go.of (fun _ q => XS.ifYes X0.here hx rfl (pc0 := 1) (pc' := 15) rfl (hb hby d1_1) rfl ((if0 _ _).trans (feq (by decide)).2) (by decide) (by decide) q) ?_
  show Go _ _ _ _ _ _ _ (s₁.setTop (mkF m 15 #[.val (.int (1 : Int32)), .val (.int x1), .val (.int x2), .val (.int x3), .val (.int x4), .val (.int x5)] []))
  refine Go.of (fun _ q => XS.iloadN X0.here hx rfl (hb hby d1_15) rfl q) ?_
  show Go _ _ _ _ _ _ _ (s₁.setTop (mkF m 16 #[.val (.int (1 : Int32)), .val (.int x1), .val (.int x2), .val (.int x3), .val (.int x4), .val (.int x5)] [(.int (1 : Int32))]))
  refine Go.of (fun _ q => XS.iconst X0.here hx rfl (hb hby d1_16) q) ?_
  show Go _ _ _ _ _ _ _ (s₁.setTop (mkF m 17 #[.val (.int (1 : Int32)), .val (.int x1), .val (.int x2), .val (.int x3), .val (.int x4), .val (.int x5)] [(.int (1 : Int32)), (.int (1 : Int32))]))
  refine Go.of (fun _ q => XS.icmpNo X0.here hx rfl (hb hby d1_17) rfl (teq rfl).2 q) ?_
  show Go _ _ _ _ _ _ _ (s₁.setTop (mkF m 20 #[.val (.int (1 : Int32)), .val (.int x1), .val (.int x2), .val (.int x3), .val (.int x4), .val (.int x5)] []))
  refine Go.of (fun _ q => XS.iloadN X0.here hx rfl (hb hby d1_20) rfl q) ?_
  show Go _ _ _ _ _ _ _ (s₁.setTop (mkF m 21 #[.val (.int (1 : Int32)), .val (.int x1), .val (.int x2), .val (.int x3), .val (.int x4), .val (.int x5)] [(.int x1)]))
  refine Go.static X0 hx hZ (y := (⟨"java/lang/String", "valueOf", "(C)Ljava/lang/String;"⟩ : MethodName)) (argsL := [(.int x1)]) hown (hw _ (List.mem_of_getElem? (i := 74) rfl)) (hw _ (List.mem_of_getElem? (i := 75) rfl)) (hw _ (List.mem_of_getElem? (i := 7) rfl)) (hw _ (List.mem_of_getElem? (i := 76) rfl)) (by decide) 0 e0 (rm17 l Z a0 hw x1 cs h0 n0 Zs Od hx1 Scs hcs) (by decide) (by decide) (by decide) (by decide) (g := (mkF m 21 #[.val (.int (1 : Int32)), .val (.int x1), .val (.int x2), .val (.int x3), .val (.int x4), .val (.int x5)] [(.int x1)])) rfl (by rw [hml]; rfl) (rest := []) (lenOf pd12 rfl) rfl (by show 2 * 0 + _ ≤ _; exact Nat.le_of_eq rfl) (hb hby d1_21) ?_
  intro T1 v1 L1 X1 q1
  obtain ⟨sa, d, kd0, gd0, rfl, Nq1, K1, f1_0, f1_1, f1_2, f1_3, f1_4⟩ := q1
  have N1 := Fr.app N0 Nq1
  have g_sa : n0 ≤ sa := Nat.le_trans Zs f1_0
  have sz_sa : h0.size ≤ sa := Nat.le_trans Kp.1 f1_0
  have Zs := Nat.le_trans Zs K1.1
  have Kp := Kp.trans K1 all0
  have Od := Od.keep K1 all0
  have E_sa := f1_1
  have F_sa_value := f1_2
  have F_sa_coder := f1_3
  have A_d := f1_4
  show Go _ _ _ _ _ _ _ (T1.setTop (mkF m 24 #[.val (.int (1 : Int32)), .val (.int x1), .val (.int x2), .val (.int x3), .val (.int x4), .val (.int x5)] [(.ref sa)]))
  refine Go.retA X1 hx hlk hret rfl rfl (hb hby d1_24) (by decide) (by decide) ?_
  exact ⟨sa, d, kd0, gd0, rfl, N1, Kp, sz_sa, E_sa, F_sa_value, F_sa_coder, A_d⟩
theorem d6_0 : decode jdk_52_method_21_code 0 = .ok (.iconst 0, 1) := by decide +kernel
theorem d6_1 : decode jdk_52_method_21_code 1 = .ok (.istore 5, 2) := by decide +kernel
theorem d6_3 : decode jdk_52_method_21_code 3 = .ok (.iload 5, 2) := by decide +kernel
theorem d6_5 : decode jdk_52_method_21_code 5 = .ok (.iload 4, 2) := by decide +kernel
theorem d6_7 : decode jdk_52_method_21_code 7 = .ok (.if_icmp .ge 37, 3) := by decide +kernel
theorem d6_10 : decode jdk_52_method_21_code 10 = .ok (.aload_n 0, 1) := by decide +kernel
theorem d6_11 : decode jdk_52_method_21_code 11 = .ok (.iload_n 1, 1) := by decide +kernel
theorem d6_12 : decode jdk_52_method_21_code 12 = .ok (.caload, 1) := by decide +kernel
theorem d6_13 : decode jdk_52_method_21_code 13 = .ok (.istore 6, 2) := by decide +kernel
theorem d6_15 : decode jdk_52_method_21_code 15 = .ok (.iload 6, 2) := by decide +kernel
theorem d6_17 : decode jdk_52_method_21_code 17 = .ok (.sipush 255, 3) := by decide +kernel
theorem d6_20 : decode jdk_52_method_21_code 20 = .ok (.if_icmp .le 6, 3) := by decide +kernel
theorem d6_26 : decode jdk_52_method_21_code 26 = .ok (.aload_n 2, 1) := by decide +kernel
theorem d6_27 : decode jdk_52_method_21_code 27 = .ok (.iload_n 3, 1) := by decide +kernel
theorem d6_28 : decode jdk_52_method_21_code 28 = .ok (.iload 6, 2) := by decide +kernel
theorem d6_30 : decode jdk_52_method_21_code 30 = .ok (.i2b, 1) := by decide +kernel
theorem d6_31 : decode jdk_52_method_21_code 31 = .ok (.bastore, 1) := by decide +kernel
theorem d6_32 : decode jdk_52_method_21_code 32 = .ok (.iinc 1 1, 3) := by decide +kernel
theorem d6_35 : decode jdk_52_method_21_code 35 = .ok (.iinc 3 1, 3) := by decide +kernel
theorem d6_38 : decode jdk_52_method_21_code 38 = .ok (.iinc 5 1, 3) := by decide +kernel
theorem d6_41 : decode jdk_52_method_21_code 41 = .ok (.goto (-38), 3) := by decide +kernel
theorem d6_44 : decode jdk_52_method_21_code 44 = .ok (.iload 4, 2) := by decide +kernel
theorem d6_46 : decode jdk_52_method_21_code 46 = .ok (.ireturn, 1) := by decide +kernel
theorem pn5 : plainName "java/lang/StringUTF16" = true := by first | (simp [plainName, overriddenIn]; done) | decide +kernel
theorem ef_6_s2 (m : MethodId) (b : Addr) (d : Addr) : entryFrame m #[(.ref b), (.int (0 : Int32)), (.ref d), (.int (0 : Int32)), (.int (2 : Int32))] 7 = mkF m 0 #[.val (.ref b), .val (.int (0 : Int32)), .val (.ref d), .val (.int (0 : Int32)), .val (.int (2 : Int32)), .unset, .unset] [] := by first | (simp [entryFrame, mkF, argsToLocals, Value.category]; done) | rfl
def Q6_s2 (Z : State) (b : Addr) (d : Addr) (kb : ClassId) (gb : Nat → Int32) (kd : ClassId) (gd : Nat → Int32) (h0 : Heap) (n0 : Nat) (v : Option Value) (h : Heap) (L : List Loc) : Prop := v = some (.int (2 : Int32)) ∧ Fr n0 L ∧ Keep h0 h [d] ∧ AF Z h d kd .byte 2 (fun i => .int ((fun i => own_by (gb i)) i))
set_option maxRecDepth 65536 in
set_option maxHeartbeats 40000000 in
theorem rm6_s2 (l : Launch) (Z : State) (a0 : Array Value) (hw : ∀ d ∈ tables_1, d.before a0 Z = true) (b : Addr) (d : Addr) (kb : ClassId) (gb : Nat → Int32) (kd : ClassId) (gd : Nat → Int32) (h0 : Heap) (n0 : Nat) (Zs : n0 ≤ h0.size) (A_b : AF Z h0 b kb .char 2 (fun i => .int (gb i))) (A_d : AF Z h0 d kd .byte 2 (fun i => .int (gd i))) (ne_b_d : b ≠ d) (g_d : n0 ≤ d) (hg : ∀ i, i < 2 → ¬ (255 : Int32) < gb i) :
    Con l Z (⟨"java/lang/StringUTF16", "compress", "([CI[BII)I"⟩ : MethodName) jdk_52_method_21_code 7 (some .int) ({ frames := 0, cells := 0, slots := 0, locals := 0 } : Room) #[(.ref b), (.int (0 : Int32)), (.ref d), (.int (0 : Int32)), (.int (2 : Int32))] h0 (Q6_s2 Z b d kb gb kd gd h0 n0) := by
  refine Con.intro (plainFor_of_name pn5) (fun m => ef_6_s2 m b d) ?_
  intro p e s m below meth c s₁ hx hby hml0 hZ hown hnm hret hlk X0 e0
  have hml : c.maxLocals = 7 := hml0
  have N0 := Fr.nil n0
  have Kp : Keep h0 h0 [d] := Keep.refl h0 _
  show Go _ _ _ _ _ _ _ (s₁.setTop (mkF m 0 #[.val (.ref b), .val (.int (0 : Int32)), .val (.ref d), .val (.int (0 : Int32)), .val (.int (2 : Int32)), .unset, .unset] []))
  refine Go.of (fun _ q => XS.iconst X0.here hx rfl (hb hby d6_0) q) ?_
  show Go _ _ _ _ _ _ _ (s₁.setTop (mkF m 1 #[.val (.ref b), .val (.int (0 : Int32)), .val (.ref d), .val (.int (0 : Int32)), .val (.int (2 : Int32)), .unset, .unset] [(.int (0 : Int32))]))
  refine Go.of (fun _ q => XS.istore X0.here hx rfl (hb hby d6_1) rfl (l' := #[.val (.ref b), .val (.int (0 : Int32)), .val (.ref d), .val (.int (0 : Int32)), .val (.int (2 : Int32)), .val (.int (0 : Int32)), .unset]) rfl q) ?_
  show Go _ _ _ _ _ _ _ (s₁.setTop (mkF m 3 #[.val (.ref b), .val (.int (0 : Int32)), .val (.ref d), .val (.int (0 : Int32)), .val (.int (2 : Int32)), .val (.int (0 : Int32)), .unset] []))
  refine Go.of (fun _ q => XS.iload X0.here hx rfl (hb hby d6_3) rfl q) ?_
  show Go _ _ _ _ _ _ _ (s₁.setTop (mkF m 5 #[.val (.ref b), .val (.int (0 : Int32)), .val (.ref d), .val (.int (0 : Int32)), .val (.int (2 : Int32)), .val (.int (0 : Int32)), .unset] [(.int (0 : Int32))]))
  refine Go.of (fun _ q => XS.iload X0.here hx rfl (hb hby d6_5) rfl q) ?_
  show Go _ _ _ _ _ _ _ (s₁.setTop (mkF m 7 #[.val (.ref b), .val (.int (0 : Int32)), .val (.ref d), .val (.int (0 : Int32)), .val (.int (2 : Int32)), .val (.int (0 : Int32)), .unset] [(.int (2 : Int32)), (.int (0 : Int32))]))
  refine Go.of (fun _ q => XS.icmpNo X0.here hx rfl (hb hby d6_7) rfl (tlt (by decide)).2.1 q) ?_
  show Go _ _ _ _ _ _ _ (s₁.setTop (mkF m 10 #[.val (.ref b), .val (.int (0 : Int32)), .val (.ref d), .val (.int (0 : Int32)), .val (.int (2 : Int32)), .val (.int (0 : Int32)), .unset] []))
  refine Go.of (fun _ q => XS.aloadN X0.here hx rfl (hb hby d6_10) rfl rfl q) ?_
  show Go _ _ _ _ _ _ _ (s₁.setTop (mkF m 11 #[.val (.ref b), .val (.int (0 : Int32)), .val (.ref d), .val (.int (0 : Int32)), .val (.int (2 : Int32)), .val (.int (0 : Int32)), .unset] [(.ref b)]))
  refine Go.of (fun _ q => XS.iloadN X0.here hx rfl (hb hby d6_11) rfl q) ?_
  show Go _ _ _ _ _ _ _ (s₁.setTop (mkF m 12 #[.val (.ref b), .val (.int (0 : Int32)), .val (.ref d), .val (.int (0 : Int32)), .val (.int (2 : Int32)), .val (.int (0 : Int32)), .unset] [(.int (0 : Int32)), (.ref b)]))
  refine Go.of (fun _ q => AF.caload A_b X0 hx hZ e0 ⟨rfl, by decide, by decide⟩ (v := (.int (gb 0))) rfl (g := (mkF m 12 #[.val (.ref b), .val (.int (0 : Int32)), .val (.ref d), .val (.int (0 : Int32)), .val (.int (2 : Int32)), .val (.int (0 : Int32)), .unset] [(.int (0 : Int32)), (.ref b)])) rfl rfl (hb hby d6_12) q) ?_
  show Go _ _ _ _ _ _ _ (s₁.setTop (mkF m 13 #[.val (.ref b), .val (.int (0 : Int32)), .val (.ref d), .val (.int (0 : Int32)), .val (.int (2 : Int32)), .val (.int (0 : Int32)), .unset] [(.int (gb 0))]))
  refine Go.of (fun _ q => XS.istore X0.here hx rfl (hb hby d6_13) rfl (l' := #[.val (.ref b), .val (.int (0 : Int32)), .val (.ref d), .val (.int (0 : Int32)), .val (.int (2 : Int32)), .val (.int (0 : Int32)), .val (.int (gb 0))]) rfl q) ?_
  show Go _ _ _ _ _ _ _ (s₁.setTop (mkF m 15 #[.val (.ref b), .val (.int (0 : Int32)), .val (.ref d), .val (.int (0 : Int32)), .val (.int (2 : Int32)), .val (.int (0 : Int32)), .val (.int (gb 0))] []))
  refine Go.of (fun _ q => XS.iload X0.here hx rfl (hb hby d6_15) rfl q) ?_
  show Go _ _ _ _ _ _ _ (s₁.setTop (mkF m 17 #[.val (.ref b), .val (.int (0 : Int32)), .val (.ref d), .val (.int (0 : Int32)), .val (.int (2 : Int32)), .val (.int (0 : Int32)), .val (.int (gb 0))] [(.int (gb 0))]))
  refine Go.of (fun _ q => XS.sipush X0.here hx rfl (hb hby d6_17) q) ?_
  show Go _ _ _ _ _ _ _ (s₁.setTop (mkF m 20 #[.val (.ref b), .val (.int (0 : Int32)), .val (.ref d), .val (.int (0 : Int32)), .val (.int (2 : Int32)), .val (.int (0 : Int32)), .val (.int (gb 0))] [(.int (255 : Int32)), (.int (gb 0))]))
  refine Go.of (fun _ q => XS.icmpYes X0.here hx rfl (pc0 := 20) (pc' := 26) rfl (hb hby d6_20) rfl (flt (hg 0 (by decide))).2.2.2 (by decide) (by decide) q) ?_
  show Go _ _ _ _ _ _ _ (s₁.setTop (mkF m 26 #[.val (.ref b), .val (.int (0 : Int32)), .val (.ref d), .val (.int (0 : Int32)), .val (.int (2 : Int32)), .val (.int (0 : Int32)), .val (.int (gb 0))] []))
  refine Go.of (fun _ q => XS.aloadN X0.here hx rfl (hb hby d6_26) rfl rfl q) ?_
  show Go _ _ _ _ _ _ _ (s₁.setTop (mkF m 27 #[.val (.ref b), .val (.int (0 : Int32)), .val (.ref d), .val (.int (0 : Int32)), .val (.int (2 : Int32)), .val (.int (0 : Int32)), .val (.int (gb 0))] [(.ref d)]))
  refine Go.of (fun _ q => XS.iloadN X0.here hx rfl (hb hby d6_27) rfl q) ?_
  show Go _ _ _ _ _ _ _ (s₁.setTop (mkF m 28 #[.val (.ref b), .val (.int (0 : Int32)), .val (.ref d), .val (.int (0 : Int32)), .val (.int (2 : Int32)), .val (.int (0 : Int32)), .val (.int (gb 0))] [(.int (0 : Int32)), (.ref d)]))
  refine Go.of (fun _ q => XS.iload X0.here hx rfl (hb hby d6_28) rfl q) ?_
  show Go _ _ _ _ _ _ _ (s₁.setTop (mkF m 30 #[.val (.ref b), .val (.int (0 : Int32)), .val (.ref d), .val (.int (0 : Int32)), .val (.int (2 : Int32)), .val (.int (0 : Int32)), .val (.int (gb 0))] [(.int (gb 0)), (.int (0 : Int32)), (.ref d)]))
  refine Go.of (fun _ q => XS.i2b X0.here hx rfl (hb hby d6_30) rfl q) ?_
  show Go _ _ _ _ _ _ _ (s₁.setTop (mkF m 31 #[.val (.ref b), .val (.int (0 : Int32)), .val (.ref d), .val (.int (0 : Int32)), .val (.int (2 : Int32)), .val (.int (0 : Int32)), .val (.int (gb 0))] [(.int ((gb 0).toInt8.toInt32)), (.int (0 : Int32)), (.ref d)]))
  obtain ⟨T1, h1, X1, e1, W1, A1', st1⟩ := AF.bastore A_d X0 hx hZ e0 (i := 0) ⟨rfl, by decide, by decide⟩ (g := (mkF m 31 #[.val (.ref b), .val (.int (0 : Int32)), .val (.ref d), .val (.int (0 : Int32)), .val (.int (2 : Int32)), .val (.int (0 : Int32)), .val (.int (gb 0))] [(.int ((gb 0).toInt8.toInt32)), (.int (0 : Int32)), (.ref d)])) rfl rfl (hb hby d6_31)
  refine Go.of st1 ?_
  have Zs := Nat.le_trans Zs (Nat.le_of_eq W1.size.symm)
  have Kp := Kp.wr W1 (Or.inl (List.mem_of_getElem? (i := 0) rfl))
  have A_b := A_b.other W1 ne_b_d
  have A_d : AF Z h1 d kd .byte 2 (fun i => .int ((upI gd 0 (((gb 0).toInt8.toInt32).toInt8.toInt32)) i)) := A1'.toI
  have N1 := Fr.snoc X1 N0 g_d
  show Go _ _ _ _ _ _ _ (T1.setTop (mkF m 32 #[.val (.ref b), .val (.int (0 : Int32)), .val (.ref d), .val (.int (0 : Int32)), .val (.int (2 : Int32)), .val (.int (0 : Int32)), .val (.int (gb 0))] []))
  refine Go.of (fun _ q => XS.iinc X1.here hx rfl (hb hby d6_32) rfl (l' := #[.val (.ref b), .val (.int (1 : Int32)), .val (.ref d), .val (.int (0 : Int32)), .val (.int (2 : Int32)), .val (.int (0 : Int32)), .val (.int (gb 0))]) rfl q) ?_
  show Go _ _ _ _ _ _ _ (T1.setTop (mkF m 35 #[.val (.ref b), .val (.int (1 : Int32)), .val (.ref d), .val (.int (0 : Int32)), .val (.int (2 : Int32)), .val (.int (0 : Int32)), .val (.int (gb 0))] []))
  refine Go.of (fun _ q => XS.iinc X1.here hx rfl (hb hby d6_35) rfl (l' := #[.val (.ref b), .val (.int (1 : Int32)), .val (.ref d), .val (.int (1 : Int32)), .val (.int (2 : Int32)), .val (.int (0 : Int32)), .val (.int (gb 0))]) rfl q) ?_
  show Go _ _ _ _ _ _ _ (T1.setTop (mkF m 38 #[.val (.ref b), .val (.int (1 : Int32)), .val (.ref d), .val (.int (1 : Int32)), .val (.int (2 : Int32)), .val (.int (0 : Int32)), .val (.int (gb 0))] []))
  refine Go.of (fun _ q => XS.iinc X1.here hx rfl (hb hby d6_38) rfl (l' := #[.val (.ref b), .val (.int (1 : Int32)), .val (.ref d), .val (.int (1 : Int32)), .val (.int (2 : Int32)), .val (.int (1 : Int32)), .val (.int (gb 0))]) rfl q) ?_
  show Go _ _ _ _ _ _ _ (T1.setTop (mkF m 41 #[.val (.ref b), .val (.int (1 : Int32)), .val (.ref d), .val (.int (1 : Int32)), .val (.int (2 : Int32)), .val (.int (1 : Int32)), .val (.int (gb 0))] []))
  refine Go.of (fun _ q => XS.goto X1.here hx rfl (pc0 := 41) (pc' := 3) rfl (hb hby d6_41) (by decide) (by decide) q) ?_
  show Go _ _ _ _ _ _ _ (T1.setTop (mkF m 3 #[.val (.ref b), .val (.int (1 : Int32)), .val (.ref d), .val (.int (1 : Int32)), .val (.int (2 : Int32)), .val (.int (1 : Int32)), .val (.int (gb 0))] []))
  refine Go.of (fun _ q => XS.iload X1.here hx rfl (hb hby d6_3) rfl q) ?_
  show Go _ _ _ _ _ _ _ (T1.setTop (mkF m 5 #[.val (.ref b), .val (.int (1 : Int32)), .val (.ref d), .val (.int (1 : Int32)), .val (.int (2 : Int32)), .val (.int (1 : Int32)), .val (.int (gb 0))] [(.int (1 : Int32))]))
  refine Go.of (fun _ q => XS.iload X1.here hx rfl (hb hby d6_5) rfl q) ?_
  show Go _ _ _ _ _ _ _ (T1.setTop (mkF m 7 #[.val (.ref b), .val (.int (1 : Int32)), .val (.ref d), .val (.int (1 : Int32)), .val (.int (2 : Int32)), .val (.int (1 : Int32)), .val (.int (gb 0))] [(.int (2 : Int32)), (.int (1 : Int32))]))
  refine Go.of (fun _ q => XS.icmpNo X1.here hx rfl (hb hby d6_7) rfl (tlt (by decide)).2.1 q) ?_
  show Go _ _ _ _ _ _ _ (T1.setTop (mkF m 10 #[.val (.ref b), .val (.int (1 : Int32)), .val (.ref d), .val (.int (1 : Int32)), .val (.int (2 : Int32)), .val (.int (1 : Int32)), .val (.int (gb 0))] []))
  refine Go.of (fun _ q => XS.aloadN X1.here hx rfl (hb hby d6_10) rfl rfl q) ?_
  show Go _ _ _ _ _ _ _ (T1.setTop (mkF m 11 #[.val (.ref b), .val (.int (1 : Int32)), .val (.ref d), .val (.int (1 : Int32)), .val (.int (2 : Int32)), .val (.int (1 : Int32)), .val (.int (gb 0))] [(.ref b)]))
  refine Go.of (fun _ q => XS.iloadN X1.here hx rfl (hb hby d6_11) rfl q) ?_
  show Go _ _ _ _ _ _ _ (T1.setTop (mkF m 12 #[.val (.ref b), .val (.int (1 : Int32)), .val (.ref d), .val (.int (1 : Int32)), .val (.int (2 : Int32)), .val (.int (1 : Int32)), .val (.int (gb 0))] [(.int (1 : Int32)), (.ref b)]))
  refine Go.of (fun _ q => AF.caload A_b X1 hx hZ e1 ⟨rfl, by decide, by decide⟩ (v := (.int (gb 1))) rfl (g := (mkF m 12 #[.val (.ref b), .val (.int (1 : Int32)), .val (.ref d), .val (.int (1 : Int32)), .val (.int (2 : Int32)), .val (.int (1 : Int32)), .val (.int (gb 0))] [(.int (1 : Int32)), (.ref b)])) rfl rfl (hb hby d6_12) q) ?_
  show Go _ _ _ _ _ _ _ (T1.setTop (mkF m 13 #[.val (.ref b), .val (.int (1 : Int32)), .val (.ref d), .val (.int (1 : Int32)), .val (.int (2 : Int32)), .val (.int (1 : Int32)), .val (.int (gb 0))] [(.int (gb 1))]))
  refine Go.of (fun _ q => XS.istore X1.here hx rfl (hb hby d6_13) rfl (l' := #[.val (.ref b), .val (.int (1 : Int32)), .val (.ref d), .val (.int (1 : Int32)), .val (.int (2 : Int32)), .val (.int (1 : Int32)), .val (.int (gb 1))]) rfl q) ?_
  show Go _ _ _ _ _ _ _ (T1.setTop (mkF m 15 #[.val (.ref b), .val (.int (1 : Int32)), .val (.ref d), .val (.int (1 : Int32)), .val (.int (2 : Int32)), .val (.int (1 : Int32)), .val (.int (gb 1))] []))
  refine Go.of (fun _ q => XS.iload X1.here hx rfl (hb hby d6_15) rfl q) ?_
  show Go _ _ _ _ _ _ _ (T1.setTop (mkF m 17 #[.val (.ref b), .val (.int (1 : Int32)), .val (.ref d), .val (.int (1 : Int32)), .val (.int (2 : Int32)), .val (.int (1 : Int32)), .val (.int (gb 1))] [(.int (gb 1))]))
  refine Go.of (fun _ q => XS.sipush X1.here hx rfl (hb hby d6_17) q) ?_
  show Go _ _ _ _ _ _ _ (T1.setTop (mkF m 20 #[.val (.ref b), .val (.int (1 : Int32)), .val (.ref d), .val (.int (1 : Int32)), .val (.int (2 : Int32)), .val (.int (1 : Int32)), .val (.int (gb 1))] [(.int (255 : Int32)), (.int (gb 1))]))
  refine Go.of (fun _ q => XS.icmpYes X1.here hx rfl (pc0 := 20) (pc' := 26) rfl (hb hby d6_20) rfl (flt (hg 1 (by decide))).2.2.2 (by decide) (by decide) q) ?_
  show Go _ _ _ _ _ _ _ (T1.setTop (mkF m 26 #[.val (.ref b), .val (.int (1 : Int32)), .val (.ref d), .val (.int (1 : Int32)), .val (.int (2 : Int32)), .val (.int (1 : Int32)), .val (.int (gb 1))] []))
  refine Go.of (fun _ q => XS.aloadN X1.here hx rfl (hb hby d6_26) rfl rfl q) ?_
  show Go _ _ _ _ _ _ _ (T1.setTop (mkF m 27 #[.val (.ref b), .val (.int (1 : Int32)), .val (.ref d), .val (.int (1 : Int32)), .val (.int (2 : Int32)), .val (.int (1 : Int32)), .val (.int (gb 1))] [(.ref d)]))
  refine Go.of (fun _ q => XS.iloadN X1.here hx rfl (hb hby d6_27) rfl q) ?_
  show Go _ _ _ _ _ _ _ (T1.setTop (mkF m 28 #[.val (.ref b), .val (.int (1 : Int32)), .val (.ref d), .val (.int (1 : Int32)), .val (.int (2 : Int32)), .val (.int (1 : Int32)), .val (.int (gb 1))] [(.int (1 : Int32)), (.ref d)]))
  refine Go.of (fun _ q => XS.iload X1.here hx rfl (hb hby d6_28) rfl q) ?_
  show Go _ _ _ _ _ _ _ (T1.setTop (mkF m 30 #[.val (.ref b), .val (.int (1 : Int32)), .val (.ref d), .val (.int (1 : Int32)), .val (.int (2 : Int32)), .val (.int (1 : Int32)), .val (.int (gb 1))] [(.int (gb 1)), (.int (1 : Int32)), (.ref d)]))
  refine Go.of (fun _ q => XS.i2b X1.here hx rfl (hb hby d6_30) rfl q) ?_
  show Go _ _ _ _ _ _ _ (T1.setTop (mkF m 31 #[.val (.ref b), .val (.int (1 : Int32)), .val (.ref d), .val (.int (1 : Int32)), .val (.int (2 : Int32)), .val (.int (1 : Int32)), .val (.int (gb 1))] [(.int ((gb 1).toInt8.toInt32)), (.int (1 : Int32)), (.ref d)]))
  obtain ⟨T2, h2, X2, e2, W2, A2', st2⟩ := AF.bastore A_d X1 hx hZ e1 (i := 1) ⟨rfl, by decide, by decide⟩ (g := (mkF m 31 #[.val (.ref b), .val (.int (1 : Int32)), .val (.ref d), .val (.int (1 : Int32)), .val (.int (2 : Int32)), .val (.int (1 : Int32)), .val (.int (gb 1))] [(.int ((gb 1).toInt8.toInt32)), (.int (1 : Int32)), (.ref d)])) rfl rfl (hb hby d6_31)
  refine Go.of st2 ?_
  have Zs := Nat.le_trans Zs (Nat.le_of_eq W2.size.symm)
  have Kp := Kp.wr W2 (Or.inl (List.mem_of_getElem? (i := 0) rfl))
  have A_b := A_b.other W2 ne_b_d
  have A_d : AF Z h2 d kd .byte 2 (fun i => .int ((upI (upI gd 0 (((gb 0).toInt8.toInt32).toInt8.toInt32)) 1 (((gb 1).toInt8.toInt32).toInt8.toInt32)) i)) := A2'.toI
  have N2 := Fr.snoc X2 N1 g_d
  show Go _ _ _ _ _ _ _ (T2.setTop (mkF m 32 #[.val (.ref b), .val (.int (1 : Int32)), .val (.ref d), .val (.int (1 : Int32)), .val (.int (2 : Int32)), .val (.int (1 : Int32)), .val (.int (gb 1))] []))
  refine Go.of (fun _ q => XS.iinc X2.here hx rfl (hb hby d6_32) rfl (l' := #[.val (.ref b), .val (.int (2 : Int32)), .val (.ref d), .val (.int (1 : Int32)), .val (.int (2 : Int32)), .val (.int (1 : Int32)), .val (.int (gb 1))]) rfl q) ?_
  show Go _ _ _ _ _ _ _ (T2.setTop (mkF m 35 #[.val (.ref b), .val (.int (2 : Int32)), .val (.ref d), .val (.int (1 : Int32)), .val (.int (2 : Int32)), .val (.int (1 : Int32)), .val (.int (gb 1))] []))
  refine Go.of (fun _ q => XS.iinc X2.here hx rfl (hb hby d6_35) rfl (l' := #[.val (.ref b), .val (.int (2 : Int32)), .val (.ref d), .val (.int (2 : Int32)), .val (.int (2 : Int32)), .val (.int (1 : Int32)), .val (.int (gb 1))]) rfl q) ?_
  show Go _ _ _ _ _ _ _ (T2.setTop (mkF m 38 #[.val (.ref b), .val (.int (2 : Int32)), .val (.ref d), .val (.int (2 : Int32)), .val (.int (2 : Int32)), .val (.int (1 : Int32)), .val (.int (gb 1))] []))
  refine Go.of (fun _ q => XS.iinc X2.here hx rfl (hb hby d6_38) rfl (l' := #[.val (.ref b), .val (.int (2 : Int32)), .val (.ref d), .val (.int (2 : Int32)), .val (.int (2 : Int32)), .val (.int (2 : Int32)), .val (.int (gb 1))]) rfl q) ?_
  show Go _ _ _ _ _ _ _ (T2.setTop (mkF m 41 #[.val (.ref b), .val (.int (2 : Int32)), .val (.ref d), .val (.int (2 : Int32)), .val (.int (2 : Int32)), .val (.int (2 : Int32)), .val (.int (gb 1))] []))
  refine Go.of (fun _ q => XS.goto X2.here hx rfl (pc0 := 41) (pc' := 3) rfl (hb hby d6_41) (by decide) (by decide) q) ?_
  show Go _ _ _ _ _ _ _ (T2.setTop (mkF m 3 #[.val (.ref b), .val (.int (2 : Int32)), .val (.ref d), .val (.int (2 : Int32)), .val (.int (2 : Int32)), .val (.int (2 : Int32)), .val (.int (gb 1))] []))
  refine Go.of (fun _ q => XS.iload X2.here hx rfl (hb hby d6_3) rfl q) ?_
  show Go _ _ _ _ _ _ _ (T2.setTop (mkF m 5 #[.val (.ref b), .val (.int (2 : Int32)), .val (.ref d), .val (.int (2 : Int32)), .val (.int (2 : Int32)), .val (.int (2 : Int32)), .val (.int (gb 1))] [(.int (2 : Int32))]))
  refine Go.of (fun _ q => XS.iload X2.here hx rfl (hb hby d6_5) rfl q) ?_
  show Go _ _ _ _ _ _ _ (T2.setTop (mkF m 7 #[.val (.ref b), .val (.int (2 : Int32)), .val (.ref d), .val (.int (2 : Int32)), .val (.int (2 : Int32)), .val (.int (2 : Int32)), .val (.int (gb 1))] [(.int (2 : Int32)), (.int (2 : Int32))]))
  refine Go.of (fun _ q => XS.icmpYes X2.here hx rfl (pc0 := 7) (pc' := 44) rfl (hb hby d6_7) rfl (flt (by decide)).2.1 (by decide) (by decide) q) ?_
  show Go _ _ _ _ _ _ _ (T2.setTop (mkF m 44 #[.val (.ref b), .val (.int (2 : Int32)), .val (.ref d), .val (.int (2 : Int32)), .val (.int (2 : Int32)), .val (.int (2 : Int32)), .val (.int (gb 1))] []))
  refine Go.of (fun _ q => XS.iload X2.here hx rfl (hb hby d6_44) rfl q) ?_
  show Go _ _ _ _ _ _ _ (T2.setTop (mkF m 46 #[.val (.ref b), .val (.int (2 : Int32)), .val (.ref d), .val (.int (2 : Int32)), .val (.int (2 : Int32)), .val (.int (2 : Int32)), .val (.int (gb 1))] [(.int (2 : Int32))]))
  refine Go.retI X2 hx hlk hret (hb hby d6_46) (by decide) (by decide) ?_
  rw [e2]
  exact ⟨rfl, N2, Kp, (AF.cast A_d (fun i hi => by rcases (show i = 0 ∨ i = 1 by omega) with rfl | rfl <;> simp [upI, own_by]))⟩
theorem pd13 : parseMethodDescriptor "([CI[BII)I" = some ⟨[(.array .char), .int, (.array .byte), .int, .int], some .int⟩ := by decide +kernel
theorem d5_0 : decode jdk_52_method_16_code 0 = .ok (.iload_n 2, 1) := by decide +kernel
theorem d5_1 : decode jdk_52_method_16_code 1 = .ok (.newarray .byte, 2) := by decide +kernel
theorem d5_3 : decode jdk_52_method_16_code 3 = .ok (.astore_n 3, 1) := by decide +kernel
theorem d5_4 : decode jdk_52_method_16_code 4 = .ok (.aload_n 0, 1) := by decide +kernel
theorem d5_5 : decode jdk_52_method_16_code 5 = .ok (.iload_n 1, 1) := by decide +kernel
theorem d5_6 : decode jdk_52_method_16_code 6 = .ok (.aload_n 3, 1) := by decide +kernel
theorem d5_7 : decode jdk_52_method_16_code 7 = .ok (.iconst 0, 1) := by decide +kernel
theorem d5_8 : decode jdk_52_method_16_code 8 = .ok (.iload_n 2, 1) := by decide +kernel
theorem d5_9 : decode jdk_52_method_16_code 9 = .ok (.invokestatic 115, 3) := by decide +kernel
theorem d5_12 : decode jdk_52_method_16_code 12 = .ok (.istore 4, 2) := by decide +kernel
theorem d5_14 : decode jdk_52_method_16_code 14 = .ok (.iload 4, 2) := by decide +kernel
theorem d5_16 : decode jdk_52_method_16_code 16 = .ok (.iload_n 2, 1) := by decide +kernel
theorem d5_17 : decode jdk_52_method_16_code 17 = .ok (.if_icmp .eq 40, 3) := by decide +kernel
theorem d5_57 : decode jdk_52_method_16_code 57 = .ok (.aload_n 3, 1) := by decide +kernel
theorem d5_58 : decode jdk_52_method_16_code 58 = .ok (.areturn, 1) := by decide +kernel
theorem ef_5_s2 (m : MethodId) (b : Addr) : entryFrame m #[(.ref b), (.int (0 : Int32)), (.int (2 : Int32))] 6 = mkF m 0 #[.val (.ref b), .val (.int (0 : Int32)), .val (.int (2 : Int32)), .unset, .unset, .unset] [] := by first | (simp [entryFrame, mkF, argsToLocals, Value.category]; done) | rfl
def Q5_s2 (Z : State) (b : Addr) (kb : ClassId) (gb : Nat → Int32) (h0 : Heap) (n0 : Nat) (v : Option Value) (h : Heap) (L : List Loc) : Prop := ∃ d : Addr, ∃ kd : ClassId, v = some (.ref d) ∧ Fr n0 L ∧ Keep h0 h [] ∧ h0.size ≤ d ∧ AF Z h d kd .byte 2 (fun i => .int ((fun i => own_by (gb i)) i))
set_option maxRecDepth 65536 in
set_option maxHeartbeats 40000000 in
theorem rm5_s2 (l : Launch) (Z : State) (a0 : Array Value) (hw : ∀ d ∈ tables_1, d.before a0 Z = true) (b : Addr) (kb : ClassId) (gb : Nat → Int32) (h0 : Heap) (n0 : Nat) (Zs : n0 ≤ h0.size) (A_b : AF Z h0 b kb .char 2 (fun i => .int (gb i))) (hg : ∀ i, i < 2 → ¬ (255 : Int32) < gb i) :
    Con l Z (⟨"java/lang/StringUTF16", "compress", "([CII)[B"⟩ : MethodName) jdk_52_method_16_code 6 (some (.array .byte)) ({ frames := 1, cells := 1, slots := 2, locals := 18 } : Room) #[(.ref b), (.int (0 : Int32)), (.int (2 : Int32))] h0 (Q5_s2 Z b kb gb h0 n0) := by
  refine Con.intro (plainFor_of_name pn5) (fun m => ef_5_s2 m b) ?_
  intro p e s m below meth c s₁ hx hby hml0 hZ hown hnm hret hlk X0 e0
  have hml : c.maxLocals = 6 := hml0
  have N0 := Fr.nil n0
  have Kp : Keep h0 h0 [] := Keep.refl h0 _
  show Go _ _ _ _ _ _ _ (s₁.setTop (mkF m 0 #[.val (.ref b), .val (.int (0 : Int32)), .val (.int (2 : Int32)), .unset, .unset, .unset] []))
  refine Go.of (fun _ q => XS.iloadN X0.here hx rfl (hb hby d5_0) rfl q) ?_
  show Go _ _ _ _ _ _ _ (s₁.setTop (mkF m 1 #[.val (.ref b), .val (.int (0 : Int32)), .val (.int (2 : Int32)), .unset, .unset, .unset] [(.int (2 : Int32))]))
  obtain ⟨T1, h1, k1, X1, e1, E1, A1, B1, st1⟩ := newPE X0 hx hZ (hw _ (List.mem_of_getElem? (i := 24) rfl)) e0 (g := (mkF m 1 #[.val (.ref b), .val (.int (0 : Int32)), .val (.int (2 : Int32)), .unset, .unset, .unset] [(.int (2 : Int32))])) rfl (hb hby d5_1) rfl (by decide) (cap := 2) (by decide) (by decide) (by decide) (by decide) (ad := "[B") (by decide)
  obtain ⟨d, g1⟩ : ∃ z, z = h0.size := ⟨_, rfl⟩
  rw [← g1] at A1 B1 st1
  refine Go.of st1 ?_
  have g_d : n0 ≤ d := Nat.le_trans Zs (Nat.le_of_eq g1.symm)
  have sz_d : h0.size ≤ d := Nat.le_trans Kp.1 (Nat.le_of_eq g1.symm)
  have ne_b_d : b ≠ d := Nat.ne_of_lt (Nat.lt_of_lt_of_le A_b.lt (Nat.le_of_eq g1.symm))
  have Zs := Nat.le_trans Zs E1.1
  have Kp := Kp.ext E1
  have A_b := A_b.ext E1
  have E_d := B1
  have A_d : AF Z h1 d k1 .byte 2 (fun i => .int ((fun _ => (0 : Int32)) i)) := AF.new A1 (by decide) rfl rfl
  show Go _ _ _ _ _ _ _ (T1.setTop (mkF m 3 #[.val (.ref b), .val (.int (0 : Int32)), .val (.int (2 : Int32)), .unset, .unset, .unset] [(.ref d)]))
  refine Go.of (fun _ q => XS.astoreN X1.here hx rfl (hb hby d5_3) rfl rfl (l' := #[.val (.ref b), .val (.int (0 : Int32)), .val (.int (2 : Int32)), .val (.ref d), .unset, .unset]) rfl q) ?_
  show Go _ _ _ _ _ _ _ (T1.setTop (mkF m 4 #[.val (.ref b), .val (.int (0 : Int32)), .val (.int (2 : Int32)), .val (.ref d), .unset, .unset] []))
  refine Go.of (fun _ q => XS.aloadN X1.here hx rfl (hb hby d5_4) rfl rfl q) ?_
  show Go _ _ _ _ _ _ _ (T1.setTop (mkF m 5 #[.val (.ref b), .val (.int (0 : Int32)), .val (.int (2 : Int32)), .val (.ref d), .unset, .unset] [(.ref b)]))
  refine Go.of (fun _ q => XS.iloadN X1.here hx rfl (hb hby d5_5) rfl q) ?_
  show Go _ _ _ _ _ _ _ (T1.setTop (mkF m 6 #[.val (.ref b), .val (.int (0 : Int32)), .val (.int (2 : Int32)), .val (.ref d), .unset, .unset] [(.int (0 : Int32)), (.ref b)]))
  refine Go.of (fun _ q => XS.aloadN X1.here hx rfl (hb hby d5_6) rfl rfl q) ?_
  show Go _ _ _ _ _ _ _ (T1.setTop (mkF m 7 #[.val (.ref b), .val (.int (0 : Int32)), .val (.int (2 : Int32)), .val (.ref d), .unset, .unset] [(.ref d), (.int (0 : Int32)), (.ref b)]))
  refine Go.of (fun _ q => XS.iconst X1.here hx rfl (hb hby d5_7) q) ?_
  show Go _ _ _ _ _ _ _ (T1.setTop (mkF m 8 #[.val (.ref b), .val (.int (0 : Int32)), .val (.int (2 : Int32)), .val (.ref d), .unset, .unset] [(.int (0 : Int32)), (.ref d), (.int (0 : Int32)), (.ref b)]))
  refine Go.of (fun _ q => XS.iloadN X1.here hx rfl (hb hby d5_8) rfl q) ?_
  show Go _ _ _ _ _ _ _ (T1.setTop (mkF m 9 #[.val (.ref b), .val (.int (0 : Int32)), .val (.int (2 : Int32)), .val (.ref d), .unset, .unset] [(.int (2 : Int32)), (.int (0 : Int32)), (.ref d), (.int (0 : Int32)), (.ref b)]))
  refine Go.static X1 hx hZ (y := (⟨"java/lang/StringUTF16", "compress", "([CI[BII)I"⟩ : MethodName)) (argsL := [(.ref b), (.int (0 : Int32)), (.ref d), (.int (0 : Int32)), (.int (2 : Int32))]) hown (hw _ (List.mem_of_getElem? (i := 25) rfl)) (hw _ (List.mem_of_getElem? (i := 26) rfl)) (hw _ (List.mem_of_getElem? (i := 22) rfl)) (hw _ (List.mem_of_getElem? (i := 27) rfl)) (by decide) 0 e1 (rm6_s2 l Z a0 hw b d kb gb k1 (fun _ => (0 : Int32)) h1 n0 Zs A_b A_d ne_b_d g_d hg) (by decide) (by decide) (by decide) (by decide) (g := (mkF m 9 #[.val (.ref b), .val (.int (0 : Int32)), .val (.int (2 : Int32)), .val (.ref d), .unset, .unset] [(.int (2 : Int32)), (.int (0 : Int32)), (.ref d), (.int (0 : Int32)), (.ref b)])) rfl (by rw [hml]; rfl) (rest := []) (lenOf pd13 rfl) rfl (by show 2 * 0 + _ ≤ _; exact Nat.le_of_eq rfl) (hb hby d5_9) ?_
  intro T2 v2 L2 X2 q2
  obtain ⟨rfl, Nq2, K2, f2_0⟩ := q2
  have N2 := Fr.app N0 Nq2
  have Zs := Nat.le_trans Zs K2.1
  have Kp := Kp.trans K2 (allS (P := fun x => x ∈ [] ∨ h0.size ≤ x) (Or.inr sz_d) all0)
  have A_b := A_b.keep K2 (ninS ne_b_d nin0)
  have E_d := E_d.keep K2
  have A_d := f2_0
  show Go _ _ _ _ _ _ _ (T2.setTop (mkF m 12 #[.val (.ref b), .val (.int (0 : Int32)), .val (.int (2 : Int32)), .val (.ref d), .unset, .unset] [(.int (2 : Int32))]))
  refine Go.of (fun _ q => XS.istore X2.here hx rfl (hb hby d5_12) rfl (l' := #[.val (.ref b), .val (.int (0 : Int32)), .val (.int (2 : Int32)), .val (.ref d), .val (.int (2 : Int32)), .unset]) rfl q) ?_
  show Go _ _ _ _ _ _ _ (T2.setTop (mkF m 14 #[.val (.ref b), .val (.int (0 : Int32)), .val (.int (2 : Int32)), .val (.ref d), .val (.int (2 : Int32)), .unset] []))
  refine Go.of (fun _ q => XS.iload X2.here hx rfl (hb hby d5_14) rfl q) ?_
  show Go _ _ _ _ _ _ _ (T2.setTop (mkF m 16 #[.val (.ref b), .val (.int (0 : Int32)), .val (.int (2 : Int32)), .val (.ref d), .val (.int (2 : Int32)), .unset] [(.int (2 : Int32))]))
  refine Go.of (fun _ q => XS.iloadN X2.here hx rfl (hb hby d5_16) rfl q) ?_
  show Go _ _ _ _ _ _ _ (T2.setTop (mkF m 17 #[.val (.ref b), .val (.int (0 : Int32)), .val (.int (2 : Int32)), .val (.ref d), .val (.int (2 : Int32)), .unset] [(.int (2 : Int32)), (.int (2 : Int32))]))
  refine Go.of (fun _ q => XS.icmpYes X2.here hx rfl (pc0 := 17) (pc' := 57) rfl (hb hby d5_17) rfl (teq rfl).1 (by decide) (by decide) q) ?_
  show Go _ _ _ _ _ _ _ (T2.setTop (mkF m 57 #[.val (.ref b), .val (.int (0 : Int32)), .val (.int (2 : Int32)), .val (.ref d), .val (.int (2 : Int32)), .unset] []))
  refine Go.of (fun _ q => XS.aloadN X2.here hx rfl (hb hby d5_57) rfl rfl q) ?_
  show Go _ _ _ _ _ _ _ (T2.setTop (mkF m 58 #[.val (.ref b), .val (.int (0 : Int32)), .val (.int (2 : Int32)), .val (.ref d), .val (.int (2 : Int32)), .unset] [(.ref d)]))
  refine Go.retA X2 hx hlk hret rfl rfl (hb hby d5_58) (by decide) (by decide) ?_
  exact ⟨d, k1, rfl, N2, Kp, sz_d, A_d⟩
theorem d7_0 : decode jdk_52_method_15_code 0 = .ok (.iload_n 1, 1) := by decide +kernel
theorem d7_1 : decode jdk_52_method_15_code 1 = .ok (.aload_n 0, 1) := by decide +kernel
theorem d7_2 : decode jdk_52_method_15_code 2 = .ok (.arraylength, 1) := by decide +kernel
theorem d7_3 : decode jdk_52_method_15_code 3 = .ok (.isub, 1) := by decide +kernel
theorem d7_4 : decode jdk_52_method_15_code 4 = .ok (.bipush 31, 2) := by decide +kernel
theorem d7_6 : decode jdk_52_method_15_code 6 = .ok (.iushr, 1) := by decide +kernel
theorem d7_7 : decode jdk_52_method_15_code 7 = .ok (.i2b, 1) := by decide +kernel
theorem d7_8 : decode jdk_52_method_15_code 8 = .ok (.ireturn, 1) := by decide +kernel
theorem ef_7_s2 (m : MethodId) (d : Addr) : entryFrame m #[(.ref d), (.int (2 : Int32))] 2 = mkF m 0 #[.val (.ref d), .val (.int (2 : Int32))] [] := by first | (simp [entryFrame, mkF, argsToLocals, Value.category]; done) | rfl
def Q7_s2 (Z : State) (d : Addr) (kd : ClassId) (gd : Nat → Int32) (h0 : Heap) (n0 : Nat) (v : Option Value) (h : Heap) (L : List Loc) : Prop := v = some (.int (0 : Int32)) ∧ Fr n0 L ∧ h = h0
set_option maxRecDepth 65536 in
set_option maxHeartbeats 40000000 in
theorem rm7_s2 (l : Launch) (Z : State) (a0 : Array Value) (hw : ∀ d ∈ tables_1, d.before a0 Z = true) (d : Addr) (kd : ClassId) (gd : Nat → Int32) (h0 : Heap) (n0 : Nat) (Zs : n0 ≤ h0.size) (A_d : AF Z h0 d kd .byte 2 (fun i => .int (gd i))) :
    Con l Z (⟨"java/lang/StringUTF16", "coderFromArrayLen", "([BI)B"⟩ : MethodName) jdk_52_method_15_code 2 (some .byte) ({ frames := 0, cells := 0, slots := 0, locals := 0 } : Room) #[(.ref d), (.int (2 : Int32))] h0 (Q7_s2 Z d kd gd h0 n0) := by
  refine Con.intro (plainFor_of_name pn5) (fun m => ef_7_s2 m d) ?_
  intro p e s m below meth c s₁ hx hby hml0 hZ hown hnm hret hlk X0 e0
  have hml : c.maxLocals = 2 := hml0
  have N0 := Fr.nil n0
  have Kp : Keep h0 h0 [] := Keep.refl h0 _
  show Go _ _ _ _ _ _ _ (s₁.setTop (mkF m 0 #[.val (.ref d), .val (.int (2 : Int32))] []))
  refine Go.of (fun _ q => XS.iloadN X0.here hx rfl (hb hby d7_0) rfl q) ?_
  show Go _ _ _ _ _ _ _ (s₁.setTop (mkF m 1 #[.val (.ref d), .val (.int (2 : Int32))] [(.int (2 : Int32))]))
  refine Go.of (fun _ q => XS.aloadN X0.here hx rfl (hb hby d7_1) rfl rfl q) ?_
  show Go _ _ _ _ _ _ _ (s₁.setTop (mkF m 2 #[.val (.ref d), .val (.int (2 : Int32))] [(.ref d), (.int (2 : Int32))]))
  refine Go.of (fun _ q => AF.length A_d X0 hx hZ e0 rfl (g := (mkF m 2 #[.val (.ref d), .val (.int (2 : Int32))] [(.ref d), (.int (2 : Int32))])) rfl rfl (hb hby d7_2) q) ?_
  show Go _ _ _ _ _ _ _ (s₁.setTop (mkF m 3 #[.val (.ref d), .val (.int (2 : Int32))] [(.int (2 : Int32)), (.int (2 : Int32))]))
  refine Go.of (fun _ q => XS.isub X0.here hx rfl (hb hby d7_3) rfl q) ?_
  show Go _ _ _ _ _ _ _ (s₁.setTop (mkF m 4 #[.val (.ref d), .val (.int (2 : Int32))] [(.int (0 : Int32))]))
  refine Go.of (fun _ q => XS.bipush X0.here hx rfl (hb hby d7_4) q) ?_
  show Go _ _ _ _ _ _ _ (s₁.setTop (mkF m 6 #[.val (.ref d), .val (.int (2 : Int32))] [(.int (31 : Int32)), (.int (0 : Int32))]))
  refine Go.of (fun _ q => XS.iushr X0.here hx rfl (hb hby d7_6) rfl q) ?_
  show Go _ _ _ _ _ _ _ (s₁.setTop (mkF m 7 #[.val (.ref d), .val (.int (2 : Int32))] [(.int (0 : Int32))]))
  refine Go.of (fun _ q => XS.i2b X0.here hx rfl (hb hby d7_7) rfl q) ?_
  show Go _ _ _ _ _ _ _ (s₁.setTop (mkF m 8 #[.val (.ref d), .val (.int (2 : Int32))] [(.int (0 : Int32))]))
  refine Go.retN X0 hx hlk (t := .byte) hret (by simp) (hb hby d7_8) rfl (by decide) (by decide) ?_
  rw [e0]
  exact ⟨rfl, N0, rfl⟩
theorem pd14 : parseMethodDescriptor "([CII)[B" = some ⟨[(.array .char), .int, .int], some (.array .byte)⟩ := by decide +kernel
theorem pd15 : parseMethodDescriptor "([BI)B" = some ⟨[(.array .byte), .int], some .byte⟩ := by decide +kernel
theorem d3_27 : decode jdk_42_method_149_code 27 = .ok (.getstatic 38, 3) := by decide +kernel
theorem d3_30 : decode jdk_42_method_149_code 30 = .ok (.ifCond .eq 28, 3) := by decide +kernel
theorem d3_33 : decode jdk_42_method_149_code 33 = .ok (.aload_n 1, 1) := by decide +kernel
theorem d3_34 : decode jdk_42_method_149_code 34 = .ok (.iload_n 2, 1) := by decide +kernel
theorem d3_35 : decode jdk_42_method_149_code 35 = .ok (.iload_n 3, 1) := by decide +kernel
theorem d3_36 : decode jdk_42_method_149_code 36 = .ok (.invokestatic 177, 3) := by decide +kernel
theorem d3_39 : decode jdk_42_method_149_code 39 = .ok (.astore 5, 2) := by decide +kernel
theorem d3_41 : decode jdk_42_method_149_code 41 = .ok (.aload_n 0, 1) := by decide +kernel
theorem d3_42 : decode jdk_42_method_149_code 42 = .ok (.aload 5, 2) := by decide +kernel
theorem d3_44 : decode jdk_42_method_149_code 44 = .ok (.iload_n 3, 1) := by decide +kernel
theorem d3_45 : decode jdk_42_method_149_code 45 = .ok (.invokestatic 47, 3) := by decide +kernel
theorem d3_48 : decode jdk_42_method_149_code 48 = .ok (.putfield 15, 3) := by decide +kernel
theorem d3_51 : decode jdk_42_method_149_code 51 = .ok (.aload_n 0, 1) := by decide +kernel
theorem d3_52 : decode jdk_42_method_149_code 52 = .ok (.aload 5, 2) := by decide +kernel
theorem d3_54 : decode jdk_42_method_149_code 54 = .ok (.putfield 9, 3) := by decide +kernel
theorem d3_57 : decode jdk_42_method_149_code 57 = .ok (.return_, 1) := by decide +kernel
theorem ef_3_s2 (m : MethodId) (a : Addr) (b : Addr) : entryFrame m #[(.ref a), (.ref b), (.int (0 : Int32)), (.int (2 : Int32)), .null] 6 = mkF m 0 #[.val (.ref a), .val (.ref b), .val (.int (0 : Int32)), .val (.int (2 : Int32)), .val .null, .unset] [] := by first | (simp [entryFrame, mkF, argsToLocals, Value.category]; done) | rfl
def Q3_s2 (Z : State) (a : Addr) (b : Addr) (kb : ClassId) (gb : Nat → Int32) (u1 : Value) (u2 : Int32) (cs : Int32) (h0 : Heap) (n0 : Nat) (v : Option Value) (h : Heap) (L : List Loc) : Prop := ∃ d : Addr, ∃ kd : ClassId, v = none ∧ Fr n0 L ∧ Keep h0 h [a] ∧ h0.size ≤ d ∧ Exa Z h a "java/lang/String" ∧ Fld Z h a "java/lang/String" "value" "[B" (.ref d) ∧ Fld Z h a "java/lang/String" "coder" "B" (.int (0 : Int32)) ∧ AF Z h d kd .byte 2 (fun i => .int ((fun i => own_by (gb i)) i))
set_option maxRecDepth 65536 in
set_option maxHeartbeats 40000000 in
theorem rm3_s2 (l : Launch) (Z : State) (a0 : Array Value) (hw : ∀ d ∈ tables_1, d.before a0 Z = true) (a : Addr) (b : Addr) (kb : ClassId) (gb : Nat → Int32) (u1 : Value) (u2 : Int32) (cs : Int32) (h0 : Heap) (n0 : Nat) (Zs : n0 ≤ h0.size) (Od : Old Z n0 h0) (E_a : Exa Z h0 a "java/lang/String") (F_a_value : Fld Z h0 a "java/lang/String" "value" "[B" u1) (F_a_coder : Fld Z h0 a "java/lang/String" "coder" "B" (.int u2)) (g_a : n0 ≤ a) (A_b : AF Z h0 b kb .char 2 (fun i => .int (gb i))) (ne_b_a : b ≠ a) (hg : ∀ i, i < 2 → ¬ (255 : Int32) < gb i) (Scs : Sta Z Z.heap "java/lang/String" "COMPACT_STRINGS" "Z" (.int cs)) (hcs : ¬ cs = (0 : Int32)) :
    Con l Z (⟨"java/lang/String", "<init>", "([CIILjava/lang/Void;)V"⟩ : MethodName) jdk_42_method_149_code 6 none ({ frames := 2, cells := 1, slots := 2, locals := 35 } : Room) #[(.ref a), (.ref b), (.int (0 : Int32)), (.int (2 : Int32)), .null] h0 (Q3_s2 Z a b kb gb u1 u2 cs h0 n0) := by
  refine Con.intro (plainFor_of_name pn0) (fun m => ef_3_s2 m a b) ?_
  intro p e s m below meth c s₁ hx hby hml0 hZ hown hnm hret hlk X0 e0
  have hml : c.maxLocals = 6 := hml0
  have N0 := Fr.nil n0
  have Kp : Keep h0 h0 [a] := Keep.refl h0 _
  show Go _ _ _ _ _ _ _ (s₁.setTop (mkF m 0 #[.val (.ref a), .val (.ref b), .val (.int (0 : Int32)), .val (.int (2 : Int32)), .val .null, .unset] []))
  refine Go.of (fun _ q => XS.aloadN X0.here hx rfl (hb hby d3_0) rfl rfl q) ?_
  show Go _ _ _ _ _ _ _ (s₁.setTop (mkF m 1 #[.val (.ref a), .val (.ref b), .val (.int (0 : Int32)), .val (.int (2 : Int32)), .val .null, .unset] [(.ref a)]))
  obtain ⟨T1, X1, e1, st1⟩ := initO X0 hx hZ hown (hw _ (List.mem_of_getElem? (i := 16) rfl)) (hw _ (List.mem_of_getElem? (i := 17) rfl)) (hw _ (List.mem_of_getElem? (i := 18) rfl)) e0 (g := (mkF m 1 #[.val (.ref a), .val (.ref b), .val (.int (0 : Int32)), .val (.int (2 : Int32)), .val .null, .unset] [(.ref a)])) rfl (by rw [hml]; rfl) rfl (hb hby d3_1) (by decide) (W := 0) (by show 2 * 0 + _ ≤ _; exact Nat.le_of_eq rfl) (by decide)
  refine Go.of st1 ?_
  show Go _ _ _ _ _ _ _ (T1.setTop (mkF m 4 #[.val (.ref a), .val (.ref b), .val (.int (0 : Int32)), .val (.int (2 : Int32)), .val .null, .unset] []))
  refine Go.of (fun _ q => XS.iloadN X1.here hx rfl (hb hby d3_4) rfl q) ?_
  show Go _ _ _ _ _ _ _ (T1.setTop (mkF m 5 #[.val (.ref a), .val (.ref b), .val (.int (0 : Int32)), .val (.int (2 : Int32)), .val .null, .unset] [(.int (2 : Int32))]))
  refine Go.of (fun _ q => XS.ifYes X1.here hx rfl (pc0 := 5) (pc' := 27) rfl (hb hby d3_5) rfl ((if0 _ _).trans (feq (by decide)).2) (by decide) (by decide) q) ?_
  show Go _ _ _ _ _ _ _ (T1.setTop (mkF m 27 #[.val (.ref a), .val (.ref b), .val (.int (0 : Int32)), .val (.int (2 : Int32)), .val .null, .unset] []))
  obtain ⟨T2, X2, e2, st2⟩ := getS2 X1 hx hZ hown (host := "") (Or.inl (hw _ (List.mem_of_getElem? (i := 19) rfl))) Via.refl e1 (Sta.ext Od.2 Scs) (g := (mkF m 27 #[.val (.ref a), .val (.ref b), .val (.int (0 : Int32)), .val (.int (2 : Int32)), .val .null, .unset] [])) rfl (hb hby d3_27)
  refine Go.of st2 ?_
  show Go _ _ _ _ _ _ _ (T2.setTop (mkF m 30 #[.val (.ref a), .val (.ref b), .val (.int (0 : Int32)), .val (.int (2 : Int32)), .val .null, .unset] [(.int cs)]))
  refine Go.of (fun _ q => XS.ifNo X2.here hx rfl (hb hby d3_30) rfl ((if0 _ _).trans (feq hcs).1) q) ?_
  show Go _ _ _ _ _ _ _ (T2.setTop (mkF m 33 #[.val (.ref a), .val (.ref b), .val (.int (0 : Int32)), .val (.int (2 : Int32)), .val .null, .unset] []))
  refine Go.of (fun _ q => XS.aloadN X2.here hx rfl (hb hby d3_33) rfl rfl q) ?_
  show Go _ _ _ _ _ _ _ (T2.setTop (mkF m 34 #[.val (.ref a), .val (.ref b), .val (.int (0 : Int32)), .val (.int (2 : Int32)), .val .null, .unset] [(.ref b)]))
  refine Go.of (fun _ q => XS.iloadN X2.here hx rfl (hb hby d3_34) rfl q) ?_
  show Go _ _ _ _ _ _ _ (T2.setTop (mkF m 35 #[.val (.ref a), .val (.ref b), .val (.int (0 : Int32)), .val (.int (2 : Int32)), .val .null, .unset] [(.int (0 : Int32)), (.ref b)]))
  refine Go.of (fun _ q => XS.iloadN X2.here hx rfl (hb hby d3_35) rfl q) ?_
  show Go _ _ _ _ _ _ _ (T2.setTop (mkF m 36 #[.val (.ref a), .val (.ref b), .val (.int (0 : Int32)), .val (.int (2 : Int32)), .val .null, .unset] [(.int (2 : Int32)), (.int (0 : Int32)), (.ref b)]))
  refine Go.static X2 hx hZ (y := (⟨"java/lang/StringUTF16", "compress", "([CII)[B"⟩ : MethodName)) (argsL := [(.ref b), (.int (0 : Int32)), (.int (2 : Int32))]) hown (hw _ (List.mem_of_getElem? (i := 20) rfl)) (hw _ (List.mem_of_getElem? (i := 21) rfl)) (hw _ (List.mem_of_getElem? (i := 22) rfl)) (hw _ (List.mem_of_getElem? (i := 23) rfl)) (by decide) 0 e2 (rm5_s2 l Z a0 hw b kb gb h0 n0 Zs A_b hg) (by decide) (by decide) (by decide) (by decide) (g := (mkF m 36 #[.val (.ref a), .val (.ref b), .val (.int (0 : Int32)), .val (.int (2 : Int32)), .val .null, .unset] [(.int (2 : Int32)), (.int (0 : Int32)), (.ref b)])) rfl (by rw [hml]; rfl) (rest := []) (lenOf pd14 rfl) rfl (by show 2 * 0 + _ ≤ _; exact Nat.le_of_eq rfl) (hb hby d3_36) ?_
  intro T3 v3 L3 X3 q3
  obtain ⟨d, kd, rfl, Nq3, K3, f3_0, f3_1⟩ := q3
  have N3 := Fr.app N0 Nq3
  have g_d : n0 ≤ d := Nat.le_trans Zs f3_0
  have sz_d : h0.size ≤ d := Nat.le_trans Kp.1 f3_0
  have ne_a_d : a ≠ d := Nat.ne_of_lt (Nat.lt_of_lt_of_le E_a.lt f3_0)
  have ne_b_d : b ≠ d := Nat.ne_of_lt (Nat.lt_of_lt_of_le A_b.lt f3_0)
  have Zs := Nat.le_trans Zs K3.1
  have Kp := Kp.trans K3 all0
  have Od := Od.keep K3 all0
  have E_a := E_a.keep K3
  have F_a_value := F_a_value.keep K3 nin0
  have F_a_coder := F_a_coder.keep K3 nin0
  have A_b := A_b.keep K3 nin0
  have A_d := f3_1
  show Go _ _ _ _ _ _ _ (T3.setTop (mkF m 39 #[.val (.ref a), .val (.ref b), .val (.int (0 : Int32)), .val (.int (2 : Int32)), .val .null, .unset] [(.ref d)]))
  refine Go.of (fun _ q => XS.astore X3.here hx rfl (hb hby d3_39) rfl rfl (l' := #[.val (.ref a), .val (.ref b), .val (.int (0 : Int32)), .val (.int (2 : Int32)), .val .null, .val (.ref d)]) rfl q) ?_
  show Go _ _ _ _ _ _ _ (T3.setTop (mkF m 41 #[.val (.ref a), .val (.ref b), .val (.int (0 : Int32)), .val (.int (2 : Int32)), .val .null, .val (.ref d)] []))
  refine Go.of (fun _ q => XS.aloadN X3.here hx rfl (hb hby d3_41) rfl rfl q) ?_
  show Go _ _ _ _ _ _ _ (T3.setTop (mkF m 42 #[.val (.ref a), .val (.ref b), .val (.int (0 : Int32)), .val (.int (2 : Int32)), .val .null, .val (.ref d)] [(.ref a)]))
  refine Go.of (fun _ q => XS.aload X3.here hx rfl (hb hby d3_42) rfl rfl q) ?_
  show Go _ _ _ _ _ _ _ (T3.setTop (mkF m 44 #[.val (.ref a), .val (.ref b), .val (.int (0 : Int32)), .val (.int (2 : Int32)), .val .null, .val (.ref d)] [(.ref d), (.ref a)]))
  refine Go.of (fun _ q => XS.iloadN X3.here hx rfl (hb hby d3_44) rfl q) ?_
  show Go _ _ _ _ _ _ _ (T3.setTop (mkF m 45 #[.val (.ref a), .val (.ref b), .val (.int (0 : Int32)), .val (.int (2 : Int32)), .val .null, .val (.ref d)] [(.int (2 : Int32)), (.ref d), (.ref a)]))
  refine Go.static X3 hx hZ (y := (⟨"java/lang/StringUTF16", "coderFromArrayLen", "([BI)B"⟩ : MethodName)) (argsL := [(.ref d), (.int (2 : Int32))]) hown (hw _ (List.mem_of_getElem? (i := 28) rfl)) (hw _ (List.mem_of_getElem? (i := 29) rfl)) (hw _ (List.mem_of_getElem? (i := 22) rfl)) (hw _ (List.mem_of_getElem? (i := 30) rfl)) (by decide) 1 rfl (rm7_s2 l Z a0 hw d kd (fun i => own_by (gb i)) T3.heap n0 Zs A_d) (by decide) (by decide) (by decide) (by decide) (g := (mkF m 45 #[.val (.ref a), .val (.ref b), .val (.int (0 : Int32)), .val (.int (2 : Int32)), .val .null, .val (.ref d)] [(.int (2 : Int32)), (.ref d), (.ref a)])) rfl (by rw [hml]; rfl) (rest := [(.ref a)]) (lenOf pd15 rfl) rfl (by show 2 * 0 + _ ≤ _; exact Nat.le_of_eq rfl) (hb hby d3_45) ?_
  intro T4 v4 L4 X4 q4
  obtain ⟨rfl, Nq4, e4⟩ := q4
  have N4 := Fr.app N3 Nq4
  show Go _ _ _ _ _ _ _ (T4.setTop (mkF m 48 #[.val (.ref a), .val (.ref b), .val (.int (0 : Int32)), .val (.int (2 : Int32)), .val .null, .val (.ref d)] [(.int (0 : Int32)), (.ref a)]))
  obtain ⟨T5, h5, X5, e5, W5, st5⟩ := putFN X4 hx hZ hown (hw _ (List.mem_of_getElem? (i := 31) rfl)) Via.refl e4 F_a_coder E_a (Or.inr ⟨(hw _ (List.mem_of_getElem? (i := 32) rfl)), rfl, hnm⟩) (hw _ (List.mem_of_getElem? (i := 6) rfl)) (ty := .byte) (v' := .int (0 : Int32)) (by decide) rfl rfl (g := (mkF m 48 #[.val (.ref a), .val (.ref b), .val (.int (0 : Int32)), .val (.int (2 : Int32)), .val .null, .val (.ref d)] [(.int (0 : Int32)), (.ref a)])) rfl rfl (hb hby d3_48)
  refine Go.of st5 ?_
  have Zs := Nat.le_trans Zs (Nat.le_of_eq W5.size.symm)
  have Kp := Kp.wr W5 (Or.inl (List.mem_of_getElem? (i := 0) rfl))
  have Od := Od.wr W5 g_a
  have E_a := E_a.wr W5
  have F_a_value := F_a_value.other W5 (Or.inr (slot_ne (Or.inr (hw _ (List.mem_of_getElem? (i := 34) rfl))) (Or.inr (hw _ (List.mem_of_getElem? (i := 32) rfl))) (by decide) (t := (.array .byte)) (t' := .byte) (by decide) (by decide)))
  have F_a_coder := F_a_coder.same W5
  have A_b := A_b.other W5 ne_b_a
  have A_d := A_d.other W5 (Ne.symm ne_a_d)
  have N5 := Fr.snoc X5 N4 g_a
  show Go _ _ _ _ _ _ _ (T5.setTop (mkF m 51 #[.val (.ref a), .val (.ref b), .val (.int (0 : Int32)), .val (.int (2 : Int32)), .val .null, .val (.ref d)] []))
  refine Go.of (fun _ q => XS.aloadN X5.here hx rfl (hb hby d3_51) rfl rfl q) ?_
  show Go _ _ _ _ _ _ _ (T5.setTop (mkF m 52 #[.val (.ref a), .val (.ref b), .val (.int (0 : Int32)), .val (.int (2 : Int32)), .val .null, .val (.ref d)] [(.ref a)]))
  refine Go.of (fun _ q => XS.aload X5.here hx rfl (hb hby d3_52) rfl rfl q) ?_
  show Go _ _ _ _ _ _ _ (T5.setTop (mkF m 54 #[.val (.ref a), .val (.ref b), .val (.int (0 : Int32)), .val (.int (2 : Int32)), .val .null, .val (.ref d)] [(.ref d), (.ref a)]))
  obtain ⟨T6, h6, X6, e6, W6, st6⟩ := putF X5 hx hZ hown (host := "") (Or.inl (hw _ (List.mem_of_getElem? (i := 33) rfl))) Via.refl e5 F_a_value E_a (Or.inr ⟨(hw _ (List.mem_of_getElem? (i := 34) rfl)), rfl, hnm⟩) (hw _ (List.mem_of_getElem? (i := 6) rfl)) (ty := (.array .byte)) (by decide) rfl rfl (g := (mkF m 54 #[.val (.ref a), .val (.ref b), .val (.int (0 : Int32)), .val (.int (2 : Int32)), .val .null, .val (.ref d)] [(.ref d), (.ref a)])) rfl rfl (hb hby d3_54)
  refine Go.of st6 ?_
  have Zs := Nat.le_trans Zs (Nat.le_of_eq W6.size.symm)
  have Kp := Kp.wr W6 (Or.inl (List.mem_of_getElem? (i := 0) rfl))
  have Od := Od.wr W6 g_a
  have E_a := E_a.wr W6
  have F_a_value := F_a_value.same W6
  have F_a_coder := F_a_coder.other W6 (Or.inr (slot_ne (Or.inr (hw _ (List.mem_of_getElem? (i := 32) rfl))) (Or.inr (hw _ (List.mem_of_getElem? (i := 34) rfl))) (by decide) (t := .byte) (t' := (.array .byte)) (by decide) (by decide)))
  have A_b := A_b.other W6 ne_b_a
  have A_d := A_d.other W6 (Ne.symm ne_a_d)
  have N6 := Fr.snoc X6 N5 g_a
  show Go _ _ _ _ _ _ _ (T6.setTop (mkF m 57 #[.val (.ref a), .val (.ref b), .val (.int (0 : Int32)), .val (.int (2 : Int32)), .val .null, .val (.ref d)] []))
  refine Go.retV X6 hx hlk hret (hb hby d3_57) (by decide) (by decide) ?_
  rw [e6]
  exact ⟨d, kd, rfl, N6, Kp, sz_d, E_a, F_a_value, F_a_coder, A_d⟩
theorem ef_2_s2 (m : MethodId) (a : Addr) (b : Addr) : entryFrame m #[(.ref a), (.ref b)] 2 = mkF m 0 #[.val (.ref a), .val (.ref b)] [] := by first | (simp [entryFrame, mkF, argsToLocals, Value.category]; done) | rfl
def Q2_s2 (Z : State) (a : Addr) (b : Addr) (kb : ClassId) (gb : Nat → Int32) (u1 : Value) (u2 : Int32) (cs : Int32) (h0 : Heap) (n0 : Nat) (v : Option Value) (h : Heap) (L : List Loc) : Prop := ∃ d : Addr, ∃ kd : ClassId, v = none ∧ Fr n0 L ∧ Keep h0 h [a] ∧ h0.size ≤ d ∧ Exa Z h a "java/lang/String" ∧ Fld Z h a "java/lang/String" "value" "[B" (.ref d) ∧ Fld Z h a "java/lang/String" "coder" "B" (.int (0 : Int32)) ∧ AF Z h d kd .byte 2 (fun i => .int ((fun i => own_by (gb i)) i))
set_option maxRecDepth 65536 in
set_option maxHeartbeats 40000000 in
theorem rm2_s2 (l : Launch) (Z : State) (a0 : Array Value) (hw : ∀ d ∈ tables_1, d.before a0 Z = true) (a : Addr) (b : Addr) (kb : ClassId) (gb : Nat → Int32) (u1 : Value) (u2 : Int32) (cs : Int32) (h0 : Heap) (n0 : Nat) (Zs : n0 ≤ h0.size) (Od : Old Z n0 h0) (E_a : Exa Z h0 a "java/lang/String") (F_a_value : Fld Z h0 a "java/lang/String" "value" "[B" u1) (F_a_coder : Fld Z h0 a "java/lang/String" "coder" "B" (.int u2)) (g_a : n0 ≤ a) (A_b : AF Z h0 b kb .char 2 (fun i => .int (gb i))) (ne_b_a : b ≠ a) (hg : ∀ i, i < 2 → ¬ (255 : Int32) < gb i) (Scs : Sta Z Z.heap "java/lang/String" "COMPACT_STRINGS" "Z" (.int cs)) (hcs : ¬ cs = (0 : Int32)) :
    Con l Z (⟨"java/lang/String", "<init>", "([C)V"⟩ : MethodName) jdk_42_method_3_code 2 none ({ frames := 3, cells := 1, slots := 2, locals := 52 } : Room) #[(.ref a), (.ref b)] h0 (Q2_s2 Z a b kb gb u1 u2 cs h0 n0) := by
  refine Con.intro (plainFor_of_name pn0) (fun m => ef_2_s2 m a b) ?_
  intro p e s m below meth c s₁ hx hby hml0 hZ hown hnm hret hlk X0 e0
  have hml : c.maxLocals = 2 := hml0
  have N0 := Fr.nil n0
  have Kp : Keep h0 h0 [a] := Keep.refl h0 _
  show Go _ _ _ _ _ _ _ (s₁.setTop (mkF m 0 #[.val (.ref a), .val (.ref b)] []))
  refine Go.of (fun _ q => XS.aloadN X0.here hx rfl (hb hby d2_0) rfl rfl q) ?_
  show Go _ _ _ _ _ _ _ (s₁.setTop (mkF m 1 #[.val (.ref a), .val (.ref b)] [(.ref a)]))
  refine Go.of (fun _ q => XS.aloadN X0.here hx rfl (hb hby d2_1) rfl rfl q) ?_
  show Go _ _ _ _ _ _ _ (s₁.setTop (mkF m 2 #[.val (.ref a), .val (.ref b)] [(.ref b), (.ref a)]))
  refine Go.of (fun _ q => XS.iconst X0.here hx rfl (hb hby d2_2) q) ?_
  show Go _ _ _ _ _ _ _ (s₁.setTop (mkF m 3 #[.val (.ref a), .val (.ref b)] [(.int (0 : Int32)), (.ref b), (.ref a)]))
  refine Go.of (fun _ q => XS.aloadN X0.here hx rfl (hb hby d2_3) rfl rfl q) ?_
  show Go _ _ _ _ _ _ _ (s₁.setTop (mkF m 4 #[.val (.ref a), .val (.ref b)] [(.ref b), (.int (0 : Int32)), (.ref b), (.ref a)]))
  refine Go.of (fun _ q => AF.length A_b X0 hx hZ e0 rfl (g := (mkF m 4 #[.val (.ref a), .val (.ref b)] [(.ref b), (.int (0 : Int32)), (.ref b), (.ref a)])) rfl rfl (hb hby d2_4) q) ?_
  show Go _ _ _ _ _ _ _ (s₁.setTop (mkF m 5 #[.val (.ref a), .val (.ref b)] [(.int (2 : Int32)), (.int (0 : Int32)), (.ref b), (.ref a)]))
  refine Go.of (fun _ q => XS.aconstNull X0.here hx rfl (hb hby d2_5) q) ?_
  show Go _ _ _ _ _ _ _ (s₁.setTop (mkF m 6 #[.val (.ref a), .val (.ref b)] [.null, (.int (2 : Int32)), (.int (0 : Int32)), (.ref b), (.ref a)]))
  refine Go.special X0 hx hZ (y := (⟨"java/lang/String", "<init>", "([CIILjava/lang/Void;)V"⟩ : MethodName)) (a := a) (argsL := [(.ref b), (.int (0 : Int32)), (.int (2 : Int32)), .null]) rfl hown (hw _ (List.mem_of_getElem? (i := 12) rfl)) (hw _ (List.mem_of_getElem? (i := 13) rfl)) (hw _ (List.mem_of_getElem? (i := 7) rfl)) (hw _ (List.mem_of_getElem? (i := 15) rfl)) (by decide) 0 e0 (rm3_s2 l Z a0 hw a b kb gb u1 u2 cs h0 n0 Zs Od E_a F_a_value F_a_coder g_a A_b ne_b_a hg Scs hcs) (by decide) (by decide) (by decide) (by decide) (g := (mkF m 6 #[.val (.ref a), .val (.ref b)] [.null, (.int (2 : Int32)), (.int (0 : Int32)), (.ref b), (.ref a)])) rfl (by rw [hml]; rfl) (rest := []) (lenOf pd10 rfl) rfl (by show 2 * 0 + _ ≤ _; exact Nat.le_of_eq rfl) (hb hby d2_6) ?_
  intro T1 v1 L1 X1 q1
  obtain ⟨d, kd, rfl, Nq1, K1, f1_0, f1_1, f1_2, f1_3, f1_4⟩ := q1
  have N1 := Fr.app N0 Nq1
  have g_d : n0 ≤ d := Nat.le_trans Zs f1_0
  have sz_d : h0.size ≤ d := Nat.le_trans Kp.1 f1_0
  have ne_a_d : a ≠ d := Nat.ne_of_lt (Nat.lt_of_lt_of_le E_a.lt f1_0)
  have ne_b_d : b ≠ d := Nat.ne_of_lt (Nat.lt_of_lt_of_le A_b.lt f1_0)
  have Zs := Nat.le_trans Zs K1.1
  have Kp := Kp.trans K1 (allS (P := fun x => x ∈ [a] ∨ h0.size ≤ x) (Or.inl (List.mem_of_getElem? (i := 0) rfl)) all0)
  have Od := Od.keep K1 (allS (P := fun x => n0 ≤ x) g_a all0)
  have E_a := E_a.keep K1
  have A_b := A_b.keep K1 (ninS ne_b_a nin0)
  have F_a_value := f1_2
  have F_a_coder := f1_3
  have A_d := f1_4
  show Go _ _ _ _ _ _ _ (T1.setTop (mkF m 9 #[.val (.ref a), .val (.ref b)] []))
  refine Go.retV X1 hx hlk hret (hb hby d2_9) (by decide) (by decide) ?_
  exact ⟨d, kd, rfl, N1, Kp, sz_d, E_a, F_a_value, F_a_coder, A_d⟩
theorem d1_25 : decode method_3_code 25 = .ok (.iload_n 0, 1) := by decide +kernel
theorem d1_26 : decode method_3_code 26 = .ok (.iconst 2, 1) := by decide +kernel
theorem d1_27 : decode method_3_code 27 = .ok (.if_icmp .ne 22, 3) := by decide +kernel
theorem d1_30 : decode method_3_code 30 = .ok (.new 7, 3) := by decide +kernel
theorem d1_33 : decode method_3_code 33 = .ok (.dup, 1) := by decide +kernel
theorem d1_34 : decode method_3_code 34 = .ok (.iconst 2, 1) := by decide +kernel
theorem d1_35 : decode method_3_code 35 = .ok (.newarray .char, 2) := by decide +kernel
theorem d1_37 : decode method_3_code 37 = .ok (.dup, 1) := by decide +kernel
theorem d1_38 : decode method_3_code 38 = .ok (.iconst 0, 1) := by decide +kernel
theorem d1_39 : decode method_3_code 39 = .ok (.iload_n 1, 1) := by decide +kernel
theorem d1_40 : decode method_3_code 40 = .ok (.castore, 1) := by decide +kernel
theorem d1_41 : decode method_3_code 41 = .ok (.dup, 1) := by decide +kernel
theorem d1_42 : decode method_3_code 42 = .ok (.iconst 1, 1) := by decide +kernel
theorem d1_43 : decode method_3_code 43 = .ok (.iload_n 2, 1) := by decide +kernel
theorem d1_44 : decode method_3_code 44 = .ok (.castore, 1) := by decide +kernel
theorem d1_45 : decode method_3_code 45 = .ok (.invokespecial 9, 3) := by decide +kernel
theorem d1_48 : decode method_3_code 48 = .ok (.areturn, 1) := by decide +kernel
theorem ef_1_2 (m : MethodId) (x1 : Int32) (x2 : Int32) (x3 : Int32) (x4 : Int32) (x5 : Int32) : entryFrame m #[(.int (2 : Int32)), (.int x1), (.int x2), (.int x3), (.int x4), (.int x5)] 6 = mkF m 0 #[.val (.int (2 : Int32)), .val (.int x1), .val (.int x2), .val (.int x3), .val (.int x4), .val (.int x5)] [] := by first | (simp [entryFrame, mkF, argsToLocals, Value.category]; done) | rfl
def Q1_2 (Z : State) (x1 : Int32) (x2 : Int32) (x3 : Int32) (x4 : Int32) (x5 : Int32) (cs : Int32) (h0 : Heap) (n0 : Nat) (v : Option Value) (h : Heap) (L : List Loc) : Prop := ∃ sa : Addr, ∃ d : Addr, ∃ kd : ClassId, ∃ gd : Nat → Int32, v = some (.ref sa) ∧ Fr n0 L ∧ Keep h0 h [] ∧ h0.size ≤ sa ∧ Exa Z h sa "java/lang/String" ∧ Fld Z h sa "java/lang/String" "value" "[B" (.ref d) ∧ Fld Z h sa "java/lang/String" "coder" "B" (.int (0 : Int32)) ∧ AF Z h d kd .byte 2 (fun i => .int (gd i))
set_option maxRecDepth 65536 in
set_option maxHeartbeats 40000000 in
theorem rm1_2 (l : Launch) (Z : State) (a0 : Array Value) (hw : ∀ d ∈ tables_1, d.before a0 Z = true) (x1 : Int32) (x2 : Int32) (x3 : Int32) (x4 : Int32) (x5 : Int32) (cs : Int32) (h0 : Heap) (n0 : Nat) (Zs : n0 ≤ h0.size) (Od : Old Z n0 h0) (hc1 : ¬ (255 : Int32) < (x1.toUInt32.toUInt16.toUInt32.toInt32)) (hc2 : ¬ (255 : Int32) < (x2.toUInt32.toUInt16.toUInt32.toInt32)) (Scs : Sta Z Z.heap "java/lang/String" "COMPACT_STRINGS" "Z" (.int cs)) (hcs : ¬ cs = (0 : Int32)) :
    Con l Z (⟨"com/example/ddos_fee_ledger/ddosfeeledger/MoneyIsCurrencyPinLaw", "make", "(ICCCCC)Ljava/lang/String;"⟩ : MethodName) method_3_code 6 (some (.object "java/lang/String")) ({ frames := 4, cells := 3, slots := 8, locals := 66 } : Room) #[(.int (2 : Int32)), (.int x1), (.int x2), (.int x3), (.int x4), (.int x5)] h0 (Q1_2 Z x1 x2 x3 x4 x5 cs h0 n0) := by
  refine Con.intro (plainFor_of_name pn4) (fun m => ef_1_2 m x1 x2 x3 x4 x5) ?_
  intro p e s m below meth c s₁ hx hby hml0 hZ hown hnm hret hlk X0 e0
  have hml : c.maxLocals = 6 := hml0
  have N0 := Fr.nil n0
  have Kp : Keep h0 h0 [] := Keep.refl h0 _
  show Go _ _ _ _ _ _ _ (s₁.setTop (mkF m 0 #[.val (.int (2 : Int32)), .val (.int x1), .val (.int x2), .val (.int x3), .val (.int x4), .val (.int x5)] []))
  refine Go.of (fun _ q => XS.iloadN X0.here hx rfl (hb hby d1_0) rfl q) ?_
  show Go _ _ _ _ _ _ _ (s₁.setTop (mkF m 1 #[.val (.int (2 : Int32)), .val (.int x1), .val (.int x2), .val (.int x3), .val (.int x4), .val (.int x5)] [(.int (2 : Int32))]))
  refine Go.of (fun _ q => XS.ifYes X0.here hx rfl (pc0 := 1) (pc' := 15) rfl (hb hby d1_1) rfl ((if0 _ _).trans (feq (by decide)).2) (by decide) (by decide) q) ?_
  show Go _ _ _ _ _ _ _ (s₁.setTop (mkF m 15 #[.val (.int (2 : Int32)), .val (.int x1), .val (.int x2), .val (.int x3), .val (.int x4), .val (.int x5)] []))
  refine Go.of (fun _ q => XS.iloadN X0.here hx rfl (hb hby d1_15) rfl q) ?_
  show Go _ _ _ _ _ _ _ (s₁.setTop (mkF m 16 #[.val (.int (2 : Int32)), .val (.int x1), .val (.int x2), .val (.int x3), .val (.int x4), .val (.int x5)] [(.int (2 : Int32))]))
  refine Go.of (fun _ q => XS.iconst X0.here hx rfl (hb hby d1_16) q) ?_
  show Go _ _ _ _ _ _ _ (s₁.setTop (mkF m 17 #[.val (.int (2 : Int32)), .val (.int x1), .val (.int x2), .val (.int x3), .val (.int x4), .val (.int x5)] [(.int (1 : Int32)), (.int (2 : Int32))]))
  refine Go.of (fun _ q => XS.icmpYes X0.here hx rfl (pc0 := 17) (pc' := 25) rfl (hb hby d1_17) rfl (feq (by decide)).2 (by decide) (by decide) q) ?_
  show Go _ _ _ _ _ _ _ (s₁.setTop (mkF m 25 #[.val (.int (2 : Int32)), .val (.int x1), .val (.int x2), .val (.int x3), .val (.int x4), .val (.int x5)] []))
  refine Go.of (fun _ q => XS.iloadN X0.here hx rfl (hb hby d1_25) rfl q) ?_
  show Go _ _ _ _ _ _ _ (s₁.setTop (mkF m 26 #[.val (.int (2 : Int32)), .val (.int x1), .val (.int x2), .val (.int x3), .val (.int x4), .val (.int x5)] [(.int (2 : Int32))]))
  refine Go.of (fun _ q => XS.iconst X0.here hx rfl (hb hby d1_26) q) ?_
  show Go _ _ _ _ _ _ _ (s₁.setTop (mkF m 27 #[.val (.int (2 : Int32)), .val (.int x1), .val (.int x2), .val (.int x3), .val (.int x4), .val (.int x5)] [(.int (2 : Int32)), (.int (2 : Int32))]))
  refine Go.of (fun _ q => XS.icmpNo X0.here hx rfl (hb hby d1_27) rfl (teq rfl).2 q) ?_
  show Go _ _ _ _ _ _ _ (s₁.setTop (mkF m 30 #[.val (.int (2 : Int32)), .val (.int x1), .val (.int x2), .val (.int x3), .val (.int x4), .val (.int x5)] []))
  obtain ⟨T1, h1, X1, e1, E1, A1, D1, -, st1⟩ := newO X0 hx hZ hown (hw _ (List.mem_of_getElem? (i := 5) rfl)) (hw _ (List.mem_of_getElem? (i := 6) rfl)) (hw _ (List.mem_of_getElem? (i := 7) rfl)) e0 (g := (mkF m 30 #[.val (.int (2 : Int32)), .val (.int x1), .val (.int x2), .val (.int x3), .val (.int x4), .val (.int x5)] [])) rfl (hb hby d1_30) (by decide) (by decide)
  obtain ⟨sa, g1⟩ : ∃ z, z = h0.size := ⟨_, rfl⟩
  rw [← g1] at A1 D1 st1
  refine Go.of st1 ?_
  have g_sa : n0 ≤ sa := Nat.le_trans Zs (Nat.le_of_eq g1.symm)
  have sz_sa : h0.size ≤ sa := Nat.le_trans Kp.1 (Nat.le_of_eq g1.symm)
  have Zs := Nat.le_trans Zs E1.1
  have Kp := Kp.ext E1
  have Od := Od.ext E1
  have E_sa := A1
  have F_sa_coder : Fld Z h1 sa "java/lang/String" "coder" "B" (.int (0 : Int32)) := D1 (Or.inr (hw _ (List.mem_of_getElem? (i := 32) rfl))) (ty := .byte) (by decide)
  have F_sa_value : Fld Z h1 sa "java/lang/String" "value" "[B" .null := D1 (Or.inr (hw _ (List.mem_of_getElem? (i := 34) rfl))) (ty := (.array .byte)) (by decide)
  show Go _ _ _ _ _ _ _ (T1.setTop (mkF m 33 #[.val (.int (2 : Int32)), .val (.int x1), .val (.int x2), .val (.int x3), .val (.int x4), .val (.int x5)] [(.ref sa)]))
  refine Go.of (fun _ q => XS.dup X1.here hx rfl (hb hby d1_33) rfl rfl q) ?_
  show Go _ _ _ _ _ _ _ (T1.setTop (mkF m 34 #[.val (.int (2 : Int32)), .val (.int x1), .val (.int x2), .val (.int x3), .val (.int x4), .val (.int x5)] [(.ref sa), (.ref sa)]))
  refine Go.of (fun _ q => XS.iconst X1.here hx rfl (hb hby d1_34) q) ?_
  show Go _ _ _ _ _ _ _ (T1.setTop (mkF m 35 #[.val (.int (2 : Int32)), .val (.int x1), .val (.int x2), .val (.int x3), .val (.int x4), .val (.int x5)] [(.int (2 : Int32)), (.ref sa), (.ref sa)]))
  obtain ⟨T2, h2, k2, X2, e2, E2, A2, B2, st2⟩ := newPE X1 hx hZ (hw _ (List.mem_of_getElem? (i := 8) rfl)) e1 (g := (mkF m 35 #[.val (.int (2 : Int32)), .val (.int x1), .val (.int x2), .val (.int x3), .val (.int x4), .val (.int x5)] [(.int (2 : Int32)), (.ref sa), (.ref sa)])) rfl (hb hby d1_35) rfl (by decide) (cap := 2) (by decide) (by decide) (by decide) (by decide) (ad := "[C") (by decide)
  obtain ⟨b, g2⟩ : ∃ z, z = h1.size := ⟨_, rfl⟩
  rw [← g2] at A2 B2 st2
  refine Go.of st2 ?_
  have g_b : n0 ≤ b := Nat.le_trans Zs (Nat.le_of_eq g2.symm)
  have sz_b : h0.size ≤ b := Nat.le_trans Kp.1 (Nat.le_of_eq g2.symm)
  have ne_sa_b : sa ≠ b := Nat.ne_of_lt (Nat.lt_of_lt_of_le E_sa.lt (Nat.le_of_eq g2.symm))
  have Zs := Nat.le_trans Zs E2.1
  have Kp := Kp.ext E2
  have Od := Od.ext E2
  have E_sa := E_sa.ext E2
  have F_sa_coder := F_sa_coder.ext E2
  have F_sa_value := F_sa_value.ext E2
  have E_b := B2
  have A_b : AF Z h2 b k2 .char 2 (fun i => .int ((fun _ => (0 : Int32)) i)) := AF.new A2 (by decide) rfl rfl
  show Go _ _ _ _ _ _ _ (T2.setTop (mkF m 37 #[.val (.int (2 : Int32)), .val (.int x1), .val (.int x2), .val (.int x3), .val (.int x4), .val (.int x5)] [(.ref b), (.ref sa), (.ref sa)]))
  refine Go.of (fun _ q => XS.dup X2.here hx rfl (hb hby d1_37) rfl rfl q) ?_
  show Go _ _ _ _ _ _ _ (T2.setTop (mkF m 38 #[.val (.int (2 : Int32)), .val (.int x1), .val (.int x2), .val (.int x3), .val (.int x4), .val (.int x5)] [(.ref b), (.ref b), (.ref sa), (.ref sa)]))
  refine Go.of (fun _ q => XS.iconst X2.here hx rfl (hb hby d1_38) q) ?_
  show Go _ _ _ _ _ _ _ (T2.setTop (mkF m 39 #[.val (.int (2 : Int32)), .val (.int x1), .val (.int x2), .val (.int x3), .val (.int x4), .val (.int x5)] [(.int (0 : Int32)), (.ref b), (.ref b), (.ref sa), (.ref sa)]))
  refine Go.of (fun _ q => XS.iloadN X2.here hx rfl (hb hby d1_39) rfl q) ?_
  show Go _ _ _ _ _ _ _ (T2.setTop (mkF m 40 #[.val (.int (2 : Int32)), .val (.int x1), .val (.int x2), .val (.int x3), .val (.int x4), .val (.int x5)] [(.int x1), (.int (0 : Int32)), (.ref b), (.ref b), (.ref sa), (.ref sa)]))
  obtain ⟨T3, h3, X3, e3, W3, A3', st3⟩ := AF.castore A_b X2 hx hZ e2 (i := 0) ⟨rfl, by decide, by decide⟩ (g := (mkF m 40 #[.val (.int (2 : Int32)), .val (.int x1), .val (.int x2), .val (.int x3), .val (.int x4), .val (.int x5)] [(.int x1), (.int (0 : Int32)), (.ref b), (.ref b), (.ref sa), (.ref sa)])) rfl rfl (hb hby d1_40)
  refine Go.of st3 ?_
  have Zs := Nat.le_trans Zs (Nat.le_of_eq W3.size.symm)
  have Kp := Kp.wr W3 (Or.inr sz_b)
  have Od := Od.wr W3 g_b
  have E_sa := E_sa.wr W3
  have F_sa_coder := F_sa_coder.other W3 (Or.inl ne_sa_b)
  have F_sa_value := F_sa_value.other W3 (Or.inl ne_sa_b)
  have E_b := E_b.wr W3
  have A_b : AF Z h3 b k2 .char 2 (fun i => .int ((upI (fun _ => (0 : Int32)) 0 (x1.toUInt32.toUInt16.toUInt32.toInt32)) i)) := A3'.toI
  have N3 := Fr.snoc X3 N0 g_b
  show Go _ _ _ _ _ _ _ (T3.setTop (mkF m 41 #[.val (.int (2 : Int32)), .val (.int x1), .val (.int x2), .val (.int x3), .val (.int x4), .val (.int x5)] [(.ref b), (.ref sa), (.ref sa)]))
  refine Go.of (fun _ q => XS.dup X3.here hx rfl (hb hby d1_41) rfl rfl q) ?_
  show Go _ _ _ _ _ _ _ (T3.setTop (mkF m 42 #[.val (.int (2 : Int32)), .val (.int x1), .val (.int x2), .val (.int x3), .val (.int x4), .val (.int x5)] [(.ref b), (.ref b), (.ref sa), (.ref sa)]))
  refine Go.of (fun _ q => XS.iconst X3.here hx rfl (hb hby d1_42) q) ?_
  show Go _ _ _ _ _ _ _ (T3.setTop (mkF m 43 #[.val (.int (2 : Int32)), .val (.int x1), .val (.int x2), .val (.int x3), .val (.int x4), .val (.int x5)] [(.int (1 : Int32)), (.ref b), (.ref b), (.ref sa), (.ref sa)]))
  refine Go.of (fun _ q => XS.iloadN X3.here hx rfl (hb hby d1_43) rfl q) ?_
  show Go _ _ _ _ _ _ _ (T3.setTop (mkF m 44 #[.val (.int (2 : Int32)), .val (.int x1), .val (.int x2), .val (.int x3), .val (.int x4), .val (.int x5)] [(.int x2), (.int (1 : Int32)), (.ref b), (.ref b), (.ref sa), (.ref sa)]))
  obtain ⟨T4, h4, X4, e4, W4, A4', st4⟩ := AF.castore A_b X3 hx hZ e3 (i := 1) ⟨rfl, by decide, by decide⟩ (g := (mkF m 44 #[.val (.int (2 : Int32)), .val (.int x1), .val (.int x2), .val (.int x3), .val (.int x4), .val (.int x5)] [(.int x2), (.int (1 : Int32)), (.ref b), (.ref b), (.ref sa), (.ref sa)])) rfl rfl (hb hby d1_44)
  refine Go.of st4 ?_
  have Zs := Nat.le_trans Zs (Nat.le_of_eq W4.size.symm)
  have Kp := Kp.wr W4 (Or.inr sz_b)
  have Od := Od.wr W4 g_b
  have E_sa := E_sa.wr W4
  have F_sa_coder := F_sa_coder.other W4 (Or.inl ne_sa_b)
  have F_sa_value := F_sa_value.other W4 (Or.inl ne_sa_b)
  have E_b := E_b.wr W4
  have A_b : AF Z h4 b k2 .char 2 (fun i => .int ((upI (upI (fun _ => (0 : Int32)) 0 (x1.toUInt32.toUInt16.toUInt32.toInt32)) 1 (x2.toUInt32.toUInt16.toUInt32.toInt32)) i)) := A4'.toI
  have N4 := Fr.snoc X4 N3 g_b
  show Go _ _ _ _ _ _ _ (T4.setTop (mkF m 45 #[.val (.int (2 : Int32)), .val (.int x1), .val (.int x2), .val (.int x3), .val (.int x4), .val (.int x5)] [(.ref b), (.ref sa), (.ref sa)]))
  refine Go.special X4 hx hZ (y := (⟨"java/lang/String", "<init>", "([C)V"⟩ : MethodName)) (a := sa) (argsL := [(.ref b)]) rfl hown (hw _ (List.mem_of_getElem? (i := 9) rfl)) (hw _ (List.mem_of_getElem? (i := 10) rfl)) (hw _ (List.mem_of_getElem? (i := 7) rfl)) (hw _ (List.mem_of_getElem? (i := 11) rfl)) (by decide) 1 e4 (rm2_s2 l Z a0 hw sa b k2 (upI (upI (fun _ => (0 : Int32)) 0 (x1.toUInt32.toUInt16.toUInt32.toInt32)) 1 (x2.toUInt32.toUInt16.toUInt32.toInt32)) .null (0 : Int32) cs h4 n0 Zs Od E_sa F_sa_value F_sa_coder g_sa A_b (Ne.symm ne_sa_b) (fun i hi => by rcases (show i = 0 ∨ i = 1 by omega) with rfl | rfl <;> first | exact hc1 | exact hc2) Scs hcs) (by decide) (by decide) (by decide) (by decide) (g := (mkF m 45 #[.val (.int (2 : Int32)), .val (.int x1), .val (.int x2), .val (.int x3), .val (.int x4), .val (.int x5)] [(.ref b), (.ref sa), (.ref sa)])) rfl (by rw [hml]; rfl) (rest := [(.ref sa)]) (lenOf pd11 rfl) rfl (by show 2 * 0 + _ ≤ _; exact Nat.le_of_eq rfl) (hb hby d1_45) ?_
  intro T5 v5 L5 X5 q5
  obtain ⟨d, kd0, rfl, Nq5, K5, f5_0, f5_1, f5_2, f5_3, f5_4⟩ := q5
  have N5 := Fr.app N4 Nq5
  have g_d : n0 ≤ d := Nat.le_trans Zs f5_0
  have sz_d : h0.size ≤ d := Nat.le_trans Kp.1 f5_0
  have ne_sa_d : sa ≠ d := Nat.ne_of_lt (Nat.lt_of_lt_of_le E_sa.lt f5_0)
  have ne_b_d : b ≠ d := Nat.ne_of_lt (Nat.lt_of_lt_of_le E_b.lt f5_0)
  have Zs := Nat.le_trans Zs K5.1
  have Kp := Kp.trans K5 (allS (P := fun x => x ∈ [] ∨ h0.size ≤ x) (Or.inr sz_sa) all0)
  have Od := Od.keep K5 (allS (P := fun x => n0 ≤ x) g_sa all0)
  have E_sa := E_sa.keep K5
  have E_b := E_b.keep K5
  have A_b := A_b.keep K5 (ninS (Ne.symm ne_sa_b) nin0)
  have F_sa_value := f5_2
  have F_sa_coder := f5_3
  have A_d := f5_4
  show Go _ _ _ _ _ _ _ (T5.setTop (mkF m 48 #[.val (.int (2 : Int32)), .val (.int x1), .val (.int x2), .val (.int x3), .val (.int x4), .val (.int x5)] [(.ref sa)]))
  refine Go.retA X5 hx hlk hret rfl rfl (hb hby d1_48) (by decide) (by decide) ?_
  exact ⟨sa, d, kd0, (fun i => own_by ((upI (upI (fun _ => (0 : Int32)) 0 (x1.toUInt32.toUInt16.toUInt32.toInt32)) 1 (x2.toUInt32.toUInt16.toUInt32.toInt32)) i)), rfl, N5, Kp, sz_sa, E_sa, F_sa_value, F_sa_coder, A_d⟩
theorem ef_6_s3 (m : MethodId) (b : Addr) (d : Addr) : entryFrame m #[(.ref b), (.int (0 : Int32)), (.ref d), (.int (0 : Int32)), (.int (3 : Int32))] 7 = mkF m 0 #[.val (.ref b), .val (.int (0 : Int32)), .val (.ref d), .val (.int (0 : Int32)), .val (.int (3 : Int32)), .unset, .unset] [] := by first | (simp [entryFrame, mkF, argsToLocals, Value.category]; done) | rfl
def Q6_s3 (Z : State) (b : Addr) (d : Addr) (kb : ClassId) (gb : Nat → Int32) (kd : ClassId) (gd : Nat → Int32) (h0 : Heap) (n0 : Nat) (v : Option Value) (h : Heap) (L : List Loc) : Prop := v = some (.int (3 : Int32)) ∧ Fr n0 L ∧ Keep h0 h [d] ∧ AF Z h d kd .byte 3 (fun i => .int ((fun i => own_by (gb i)) i))
set_option maxRecDepth 65536 in
set_option maxHeartbeats 40000000 in
theorem rm6_s3 (l : Launch) (Z : State) (a0 : Array Value) (hw : ∀ d ∈ tables_1, d.before a0 Z = true) (b : Addr) (d : Addr) (kb : ClassId) (gb : Nat → Int32) (kd : ClassId) (gd : Nat → Int32) (h0 : Heap) (n0 : Nat) (Zs : n0 ≤ h0.size) (A_b : AF Z h0 b kb .char 3 (fun i => .int (gb i))) (A_d : AF Z h0 d kd .byte 3 (fun i => .int (gd i))) (ne_b_d : b ≠ d) (g_d : n0 ≤ d) (hg : ∀ i, i < 3 → ¬ (255 : Int32) < gb i) :
    Con l Z (⟨"java/lang/StringUTF16", "compress", "([CI[BII)I"⟩ : MethodName) jdk_52_method_21_code 7 (some .int) ({ frames := 0, cells := 0, slots := 0, locals := 0 } : Room) #[(.ref b), (.int (0 : Int32)), (.ref d), (.int (0 : Int32)), (.int (3 : Int32))] h0 (Q6_s3 Z b d kb gb kd gd h0 n0) := by
  refine Con.intro (plainFor_of_name pn5) (fun m => ef_6_s3 m b d) ?_
  intro p e s m below meth c s₁ hx hby hml0 hZ hown hnm hret hlk X0 e0
  have hml : c.maxLocals = 7 := hml0
  have N0 := Fr.nil n0
  have Kp : Keep h0 h0 [d] := Keep.refl h0 _
  show Go _ _ _ _ _ _ _ (s₁.setTop (mkF m 0 #[.val (.ref b), .val (.int (0 : Int32)), .val (.ref d), .val (.int (0 : Int32)), .val (.int (3 : Int32)), .unset, .unset] []))
  refine Go.of (fun _ q => XS.iconst X0.here hx rfl (hb hby d6_0) q) ?_
  show Go _ _ _ _ _ _ _ (s₁.setTop (mkF m 1 #[.val (.ref b), .val (.int (0 : Int32)), .val (.ref d), .val (.int (0 : Int32)), .val (.int (3 : Int32)), .unset, .unset] [(.int (0 : Int32))]))
  refine Go.of (fun _ q => XS.istore X0.here hx rfl (hb hby d6_1) rfl (l' := #[.val (.ref b), .val (.int (0 : Int32)), .val (.ref d), .val (.int (0 : Int32)), .val (.int (3 : Int32)), .val (.int (0 : Int32)), .unset]) rfl q) ?_
  show Go _ _ _ _ _ _ _ (s₁.setTop (mkF m 3 #[.val (.ref b), .val (.int (0 : Int32)), .val (.ref d), .val (.int (0 : Int32)), .val (.int (3 : Int32)), .val (.int (0 : Int32)), .unset] []))
  refine Go.of (fun _ q => XS.iload X0.here hx rfl (hb hby d6_3) rfl q) ?_
  show Go _ _ _ _ _ _ _ (s₁.setTop (mkF m 5 #[.val (.ref b), .val (.int (0 : Int32)), .val (.ref d), .val (.int (0 : Int32)), .val (.int (3 : Int32)), .val (.int (0 : Int32)), .unset] [(.int (0 : Int32))]))
  refine Go.of (fun _ q => XS.iload X0.here hx rfl (hb hby d6_5) rfl q) ?_
  show Go _ _ _ _ _ _ _ (s₁.setTop (mkF m 7 #[.val (.ref b), .val (.int (0 : Int32)), .val (.ref d), .val (.int (0 : Int32)), .val (.int (3 : Int32)), .val (.int (0 : Int32)), .unset] [(.int (3 : Int32)), (.int (0 : Int32))]))
  refine Go.of (fun _ q => XS.icmpNo X0.here hx rfl (hb hby d6_7) rfl (tlt (by decide)).2.1 q) ?_
  show Go _ _ _ _ _ _ _ (s₁.setTop (mkF m 10 #[.val (.ref b), .val (.int (0 : Int32)), .val (.ref d), .val (.int (0 : Int32)), .val (.int (3 : Int32)), .val (.int (0 : Int32)), .unset] []))
  refine Go.of (fun _ q => XS.aloadN X0.here hx rfl (hb hby d6_10) rfl rfl q) ?_
  show Go _ _ _ _ _ _ _ (s₁.setTop (mkF m 11 #[.val (.ref b), .val (.int (0 : Int32)), .val (.ref d), .val (.int (0 : Int32)), .val (.int (3 : Int32)), .val (.int (0 : Int32)), .unset] [(.ref b)]))
  refine Go.of (fun _ q => XS.iloadN X0.here hx rfl (hb hby d6_11) rfl q) ?_
  show Go _ _ _ _ _ _ _ (s₁.setTop (mkF m 12 #[.val (.ref b), .val (.int (0 : Int32)), .val (.ref d), .val (.int (0 : Int32)), .val (.int (3 : Int32)), .val (.int (0 : Int32)), .unset] [(.int (0 : Int32)), (.ref b)]))
  refine Go.of (fun _ q => AF.caload A_b X0 hx hZ e0 ⟨rfl, by decide, by decide⟩ (v := (.int (gb 0))) rfl (g := (mkF m 12 #[.val (.ref b), .val (.int (0 : Int32)), .val (.ref d), .val (.int (0 : Int32)), .val (.int (3 : Int32)), .val (.int (0 : Int32)), .unset] [(.int (0 : Int32)), (.ref b)])) rfl rfl (hb hby d6_12) q) ?_
  show Go _ _ _ _ _ _ _ (s₁.setTop (mkF m 13 #[.val (.ref b), .val (.int (0 : Int32)), .val (.ref d), .val (.int (0 : Int32)), .val (.int (3 : Int32)), .val (.int (0 : Int32)), .unset] [(.int (gb 0))]))
  refine Go.of (fun _ q => XS.istore X0.here hx rfl (hb hby d6_13) rfl (l' := #[.val (.ref b), .val (.int (0 : Int32)), .val (.ref d), .val (.int (0 : Int32)), .val (.int (3 : Int32)), .val (.int (0 : Int32)), .val (.int (gb 0))]) rfl q) ?_
  show Go _ _ _ _ _ _ _ (s₁.setTop (mkF m 15 #[.val (.ref b), .val (.int (0 : Int32)), .val (.ref d), .val (.int (0 : Int32)), .val (.int (3 : Int32)), .val (.int (0 : Int32)), .val (.int (gb 0))] []))
  refine Go.of (fun _ q => XS.iload X0.here hx rfl (hb hby d6_15) rfl q) ?_
  show Go _ _ _ _ _ _ _ (s₁.setTop (mkF m 17 #[.val (.ref b), .val (.int (0 : Int32)), .val (.ref d), .val (.int (0 : Int32)), .val (.int (3 : Int32)), .val (.int (0 : Int32)), .val (.int (gb 0))] [(.int (gb 0))]))
  refine Go.of (fun _ q => XS.sipush X0.here hx rfl (hb hby d6_17) q) ?_
  show Go _ _ _ _ _ _ _ (s₁.setTop (mkF m 20 #[.val (.ref b), .val (.int (0 : Int32)), .val (.ref d), .val (.int (0 : Int32)), .val (.int (3 : Int32)), .val (.int (0 : Int32)), .val (.int (gb 0))] [(.int (255 : Int32)), (.int (gb 0))]))
  refine Go.of (fun _ q => XS.icmpYes X0.here hx rfl (pc0 := 20) (pc' := 26) rfl (hb hby d6_20) rfl (flt (hg 0 (by decide))).2.2.2 (by decide) (by decide) q) ?_
  show Go _ _ _ _ _ _ _ (s₁.setTop (mkF m 26 #[.val (.ref b), .val (.int (0 : Int32)), .val (.ref d), .val (.int (0 : Int32)), .val (.int (3 : Int32)), .val (.int (0 : Int32)), .val (.int (gb 0))] []))
  refine Go.of (fun _ q => XS.aloadN X0.here hx rfl (hb hby d6_26) rfl rfl q) ?_
  show Go _ _ _ _ _ _ _ (s₁.setTop (mkF m 27 #[.val (.ref b), .val (.int (0 : Int32)), .val (.ref d), .val (.int (0 : Int32)), .val (.int (3 : Int32)), .val (.int (0 : Int32)), .val (.int (gb 0))] [(.ref d)]))
  refine Go.of (fun _ q => XS.iloadN X0.here hx rfl (hb hby d6_27) rfl q) ?_
  show Go _ _ _ _ _ _ _ (s₁.setTop (mkF m 28 #[.val (.ref b), .val (.int (0 : Int32)), .val (.ref d), .val (.int (0 : Int32)), .val (.int (3 : Int32)), .val (.int (0 : Int32)), .val (.int (gb 0))] [(.int (0 : Int32)), (.ref d)]))
  refine Go.of (fun _ q => XS.iload X0.here hx rfl (hb hby d6_28) rfl q) ?_
  show Go _ _ _ _ _ _ _ (s₁.setTop (mkF m 30 #[.val (.ref b), .val (.int (0 : Int32)), .val (.ref d), .val (.int (0 : Int32)), .val (.int (3 : Int32)), .val (.int (0 : Int32)), .val (.int (gb 0))] [(.int (gb 0)), (.int (0 : Int32)), (.ref d)]))
  refine Go.of (fun _ q => XS.i2b X0.here hx rfl (hb hby d6_30) rfl q) ?_
  show Go _ _ _ _ _ _ _ (s₁.setTop (mkF m 31 #[.val (.ref b), .val (.int (0 : Int32)), .val (.ref d), .val (.int (0 : Int32)), .val (.int (3 : Int32)), .val (.int (0 : Int32)), .val (.int (gb 0))] [(.int ((gb 0).toInt8.toInt32)), (.int (0 : Int32)), (.ref d)]))
  obtain ⟨T1, h1, X1, e1, W1, A1', st1⟩ := AF.bastore A_d X0 hx hZ e0 (i := 0) ⟨rfl, by decide, by decide⟩ (g := (mkF m 31 #[.val (.ref b), .val (.int (0 : Int32)), .val (.ref d), .val (.int (0 : Int32)), .val (.int (3 : Int32)), .val (.int (0 : Int32)), .val (.int (gb 0))] [(.int ((gb 0).toInt8.toInt32)), (.int (0 : Int32)), (.ref d)])) rfl rfl (hb hby d6_31)
  refine Go.of st1 ?_
  have Zs := Nat.le_trans Zs (Nat.le_of_eq W1.size.symm)
  have Kp := Kp.wr W1 (Or.inl (List.mem_of_getElem? (i := 0) rfl))
  have A_b := A_b.other W1 ne_b_d
  have A_d : AF Z h1 d kd .byte 3 (fun i => .int ((upI gd 0 (((gb 0).toInt8.toInt32).toInt8.toInt32)) i)) := A1'.toI
  have N1 := Fr.snoc X1 N0 g_d
  show Go _ _ _ _ _ _ _ (T1.setTop (mkF m 32 #[.val (.ref b), .val (.int (0 : Int32)), .val (.ref d), .val (.int (0 : Int32)), .val (.int (3 : Int32)), .val (.int (0 : Int32)), .val (.int (gb 0))] []))
  refine Go.of (fun _ q => XS.iinc X1.here hx rfl (hb hby d6_32) rfl (l' := #[.val (.ref b), .val (.int (1 : Int32)), .val (.ref d), .val (.int (0 : Int32)), .val (.int (3 : Int32)), .val (.int (0 : Int32)), .val (.int (gb 0))]) rfl q) ?_
  show Go _ _ _ _ _ _ _ (T1.setTop (mkF m 35 #[.val (.ref b), .val (.int (1 : Int32)), .val (.ref d), .val (.int (0 : Int32)), .val (.int (3 : Int32)), .val (.int (0 : Int32)), .val (.int (gb 0))] []))
  refine Go.of (fun _ q => XS.iinc X1.here hx rfl (hb hby d6_35) rfl (l' := #[.val (.ref b), .val (.int (1 : Int32)), .val (.ref d), .val (.int (1 : Int32)), .val (.int (3 : Int32)), .val (.int (0 : Int32)), .val (.int (gb 0))]) rfl q) ?_
  show Go _ _ _ _ _ _ _ (T1.setTop (mkF m 38 #[.val (.ref b), .val (.int (1 : Int32)), .val (.ref d), .val (.int (1 : Int32)), .val (.int (3 : Int32)), .val (.int (0 : Int32)), .val (.int (gb 0))] []))
  refine Go.of (fun _ q => XS.iinc X1.here hx rfl (hb hby d6_38) rfl (l' := #[.val (.ref b), .val (.int (1 : Int32)), .val (.ref d), .val (.int (1 : Int32)), .val (.int (3 : Int32)), .val (.int (1 : Int32)), .val (.int (gb 0))]) rfl q) ?_
  show Go _ _ _ _ _ _ _ (T1.setTop (mkF m 41 #[.val (.ref b), .val (.int (1 : Int32)), .val (.ref d), .val (.int (1 : Int32)), .val (.int (3 : Int32)), .val (.int (1 : Int32)), .val (.int (gb 0))] []))
  refine Go.of (fun _ q => XS.goto X1.here hx rfl (pc0 := 41) (pc' := 3) rfl (hb hby d6_41) (by decide) (by decide) q) ?_
  show Go _ _ _ _ _ _ _ (T1.setTop (mkF m 3 #[.val (.ref b), .val (.int (1 : Int32)), .val (.ref d), .val (.int (1 : Int32)), .val (.int (3 : Int32)), .val (.int (1 : Int32)), .val (.int (gb 0))] []))
  refine Go.of (fun _ q => XS.iload X1.here hx rfl (hb hby d6_3) rfl q) ?_
  show Go _ _ _ _ _ _ _ (T1.setTop (mkF m 5 #[.val (.ref b), .val (.int (1 : Int32)), .val (.ref d), .val (.int (1 : Int32)), .val (.int (3 : Int32)), .val (.int (1 : Int32)), .val (.int (gb 0))] [(.int (1 : Int32))]))
  refine Go.of (fun _ q => XS.iload X1.here hx rfl (hb hby d6_5) rfl q) ?_
  show Go _ _ _ _ _ _ _ (T1.setTop (mkF m 7 #[.val (.ref b), .val (.int (1 : Int32)), .val (.ref d), .val (.int (1 : Int32)), .val (.int (3 : Int32)), .val (.int (1 : Int32)), .val (.int (gb 0))] [(.int (3 : Int32)), (.int (1 : Int32))]))
  refine Go.of (fun _ q => XS.icmpNo X1.here hx rfl (hb hby d6_7) rfl (tlt (by decide)).2.1 q) ?_
  show Go _ _ _ _ _ _ _ (T1.setTop (mkF m 10 #[.val (.ref b), .val (.int (1 : Int32)), .val (.ref d), .val (.int (1 : Int32)), .val (.int (3 : Int32)), .val (.int (1 : Int32)), .val (.int (gb 0))] []))
  refine Go.of (fun _ q => XS.aloadN X1.here hx rfl (hb hby d6_10) rfl rfl q) ?_
  show Go _ _ _ _ _ _ _ (T1.setTop (mkF m 11 #[.val (.ref b), .val (.int (1 : Int32)), .val (.ref d), .val (.int (1 : Int32)), .val (.int (3 : Int32)), .val (.int (1 : Int32)), .val (.int (gb 0))] [(.ref b)]))
  refine Go.of (fun _ q => XS.iloadN X1.here hx rfl (hb hby d6_11) rfl q) ?_
  show Go _ _ _ _ _ _ _ (T1.setTop (mkF m 12 #[.val (.ref b), .val (.int (1 : Int32)), .val (.ref d), .val (.int (1 : Int32)), .val (.int (3 : Int32)), .val (.int (1 : Int32)), .val (.int (gb 0))] [(.int (1 : Int32)), (.ref b)]))
  refine Go.of (fun _ q => AF.caload A_b X1 hx hZ e1 ⟨rfl, by decide, by decide⟩ (v := (.int (gb 1))) rfl (g := (mkF m 12 #[.val (.ref b), .val (.int (1 : Int32)), .val (.ref d), .val (.int (1 : Int32)), .val (.int (3 : Int32)), .val (.int (1 : Int32)), .val (.int (gb 0))] [(.int (1 : Int32)), (.ref b)])) rfl rfl (hb hby d6_12) q) ?_
  show Go _ _ _ _ _ _ _ (T1.setTop (mkF m 13 #[.val (.ref b), .val (.int (1 : Int32)), .val (.ref d), .val (.int (1 : Int32)), .val (.int (3 : Int32)), .val (.int (1 : Int32)), .val (.int (gb 0))] [(.int (gb 1))]))
  refine Go.of (fun _ q => XS.istore X1.here hx rfl (hb hby d6_13) rfl (l' := #[.val (.ref b), .val (.int (1 : Int32)), .val (.ref d), .val (.int (1 : Int32)), .val (.int (3 : Int32)), .val (.int (1 : Int32)), .val (.int (gb 1))]) rfl q) ?_
  show Go _ _ _ _ _ _ _ (T1.setTop (mkF m 15 #[.val (.ref b), .val (.int (1 : Int32)), .val (.ref d), .val (.int (1 : Int32)), .val (.int (3 : Int32)), .val (.int (1 : Int32)), .val (.int (gb 1))] []))
  refine Go.of (fun _ q => XS.iload X1.here hx rfl (hb hby d6_15) rfl q) ?_
  show Go _ _ _ _ _ _ _ (T1.setTop (mkF m 17 #[.val (.ref b), .val (.int (1 : Int32)), .val (.ref d), .val (.int (1 : Int32)), .val (.int (3 : Int32)), .val (.int (1 : Int32)), .val (.int (gb 1))] [(.int (gb 1))]))
  refine Go.of (fun _ q => XS.sipush X1.here hx rfl (hb hby d6_17) q) ?_
  show Go _ _ _ _ _ _ _ (T1.setTop (mkF m 20 #[.val (.ref b), .val (.int (1 : Int32)), .val (.ref d), .val (.int (1 : Int32)), .val (.int (3 : Int32)), .val (.int (1 : Int32)), .val (.int (gb 1))] [(.int (255 : Int32)), (.int (gb 1))]))
  refine Go.of (fun _ q => XS.icmpYes X1.here hx rfl (pc0 := 20) (pc' := 26) rfl (hb hby d6_20) rfl (flt (hg 1 (by decide))).2.2.2 (by decide) (by decide) q) ?_
  show Go _ _ _ _ _ _ _ (T1.setTop (mkF m 26 #[.val (.ref b), .val (.int (1 : Int32)), .val (.ref d), .val (.int (1 : Int32)), .val (.int (3 : Int32)), .val (.int (1 : Int32)), .val (.int (gb 1))] []))
  refine Go.of (fun _ q => XS.aloadN X1.here hx rfl (hb hby d6_26) rfl rfl q) ?_
  show Go _ _ _ _ _ _ _ (T1.setTop (mkF m 27 #[.val (.ref b), .val (.int (1 : Int32)), .val (.ref d), .val (.int (1 : Int32)), .val (.int (3 : Int32)), .val (.int (1 : Int32)), .val (.int (gb 1))] [(.ref d)]))
  refine Go.of (fun _ q => XS.iloadN X1.here hx rfl (hb hby d6_27) rfl q) ?_
  show Go _ _ _ _ _ _ _ (T1.setTop (mkF m 28 #[.val (.ref b), .val (.int (1 : Int32)), .val (.ref d), .val (.int (1 : Int32)), .val (.int (3 : Int32)), .val (.int (1 : Int32)), .val (.int (gb 1))] [(.int (1 : Int32)), (.ref d)]))
  refine Go.of (fun _ q => XS.iload X1.here hx rfl (hb hby d6_28) rfl q) ?_
  show Go _ _ _ _ _ _ _ (T1.setTop (mkF m 30 #[.val (.ref b), .val (.int (1 : Int32)), .val (.ref d), .val (.int (1 : Int32)), .val (.int (3 : Int32)), .val (.int (1 : Int32)), .val (.int (gb 1))] [(.int (gb 1)), (.int (1 : Int32)), (.ref d)]))
  refine Go.of (fun _ q => XS.i2b X1.here hx rfl (hb hby d6_30) rfl q) ?_
  show Go _ _ _ _ _ _ _ (T1.setTop (mkF m 31 #[.val (.ref b), .val (.int (1 : Int32)), .val (.ref d), .val (.int (1 : Int32)), .val (.int (3 : Int32)), .val (.int (1 : Int32)), .val (.int (gb 1))] [(.int ((gb 1).toInt8.toInt32)), (.int (1 : Int32)), (.ref d)]))
  obtain ⟨T2, h2, X2, e2, W2, A2', st2⟩ := AF.bastore A_d X1 hx hZ e1 (i := 1) ⟨rfl, by decide, by decide⟩ (g := (mkF m 31 #[.val (.ref b), .val (.int (1 : Int32)), .val (.ref d), .val (.int (1 : Int32)), .val (.int (3 : Int32)), .val (.int (1 : Int32)), .val (.int (gb 1))] [(.int ((gb 1).toInt8.toInt32)), (.int (1 : Int32)), (.ref d)])) rfl rfl (hb hby d6_31)
  refine Go.of st2 ?_
  have Zs := Nat.le_trans Zs (Nat.le_of_eq W2.size.symm)
  have Kp := Kp.wr W2 (Or.inl (List.mem_of_getElem? (i := 0) rfl))
  have A_b := A_b.other W2 ne_b_d
  have A_d : AF Z h2 d kd .byte 3 (fun i => .int ((upI (upI gd 0 (((gb 0).toInt8.toInt32).toInt8.toInt32)) 1 (((gb 1).toInt8.toInt32).toInt8.toInt32)) i)) := A2'.toI
  have N2 := Fr.snoc X2 N1 g_d
  show Go _ _ _ _ _ _ _ (T2.setTop (mkF m 32 #[.val (.ref b), .val (.int (1 : Int32)), .val (.ref d), .val (.int (1 : Int32)), .val (.int (3 : Int32)), .val (.int (1 : Int32)), .val (.int (gb 1))] []))
  refine Go.of (fun _ q => XS.iinc X2.here hx rfl (hb hby d6_32) rfl (l' := #[.val (.ref b), .val (.int (2 : Int32)), .val (.ref d), .val (.int (1 : Int32)), .val (.int (3 : Int32)), .val (.int (1 : Int32)), .val (.int (gb 1))]) rfl q) ?_
  show Go _ _ _ _ _ _ _ (T2.setTop (mkF m 35 #[.val (.ref b), .val (.int (2 : Int32)), .val (.ref d), .val (.int (1 : Int32)), .val (.int (3 : Int32)), .val (.int (1 : Int32)), .val (.int (gb 1))] []))
  refine Go.of (fun _ q => XS.iinc X2.here hx rfl (hb hby d6_35) rfl (l' := #[.val (.ref b), .val (.int (2 : Int32)), .val (.ref d), .val (.int (2 : Int32)), .val (.int (3 : Int32)), .val (.int (1 : Int32)), .val (.int (gb 1))]) rfl q) ?_
  show Go _ _ _ _ _ _ _ (T2.setTop (mkF m 38 #[.val (.ref b), .val (.int (2 : Int32)), .val (.ref d), .val (.int (2 : Int32)), .val (.int (3 : Int32)), .val (.int (1 : Int32)), .val (.int (gb 1))] []))
  refine Go.of (fun _ q => XS.iinc X2.here hx rfl (hb hby d6_38) rfl (l' := #[.val (.ref b), .val (.int (2 : Int32)), .val (.ref d), .val (.int (2 : Int32)), .val (.int (3 : Int32)), .val (.int (2 : Int32)), .val (.int (gb 1))]) rfl q) ?_
  show Go _ _ _ _ _ _ _ (T2.setTop (mkF m 41 #[.val (.ref b), .val (.int (2 : Int32)), .val (.ref d), .val (.int (2 : Int32)), .val (.int (3 : Int32)), .val (.int (2 : Int32)), .val (.int (gb 1))] []))
  refine Go.of (fun _ q => XS.goto X2.here hx rfl (pc0 := 41) (pc' := 3) rfl (hb hby d6_41) (by decide) (by decide) q) ?_
  show Go _ _ _ _ _ _ _ (T2.setTop (mkF m 3 #[.val (.ref b), .val (.int (2 : Int32)), .val (.ref d), .val (.int (2 : Int32)), .val (.int (3 : Int32)), .val (.int (2 : Int32)), .val (.int (gb 1))] []))
  refine Go.of (fun _ q => XS.iload X2.here hx rfl (hb hby d6_3) rfl q) ?_
  show Go _ _ _ _ _ _ _ (T2.setTop (mkF m 5 #[.val (.ref b), .val (.int (2 : Int32)), .val (.ref d), .val (.int (2 : Int32)), .val (.int (3 : Int32)), .val (.int (2 : Int32)), .val (.int (gb 1))] [(.int (2 : Int32))]))
  refine Go.of (fun _ q => XS.iload X2.here hx rfl (hb hby d6_5) rfl q) ?_
  show Go _ _ _ _ _ _ _ (T2.setTop (mkF m 7 #[.val (.ref b), .val (.int (2 : Int32)), .val (.ref d), .val (.int (2 : Int32)), .val (.int (3 : Int32)), .val (.int (2 : Int32)), .val (.int (gb 1))] [(.int (3 : Int32)), (.int (2 : Int32))]))
  refine Go.of (fun _ q => XS.icmpNo X2.here hx rfl (hb hby d6_7) rfl (tlt (by decide)).2.1 q) ?_
  show Go _ _ _ _ _ _ _ (T2.setTop (mkF m 10 #[.val (.ref b), .val (.int (2 : Int32)), .val (.ref d), .val (.int (2 : Int32)), .val (.int (3 : Int32)), .val (.int (2 : Int32)), .val (.int (gb 1))] []))
  refine Go.of (fun _ q => XS.aloadN X2.here hx rfl (hb hby d6_10) rfl rfl q) ?_
  show Go _ _ _ _ _ _ _ (T2.setTop (mkF m 11 #[.val (.ref b), .val (.int (2 : Int32)), .val (.ref d), .val (.int (2 : Int32)), .val (.int (3 : Int32)), .val (.int (2 : Int32)), .val (.int (gb 1))] [(.ref b)]))
  refine Go.of (fun _ q => XS.iloadN X2.here hx rfl (hb hby d6_11) rfl q) ?_
  show Go _ _ _ _ _ _ _ (T2.setTop (mkF m 12 #[.val (.ref b), .val (.int (2 : Int32)), .val (.ref d), .val (.int (2 : Int32)), .val (.int (3 : Int32)), .val (.int (2 : Int32)), .val (.int (gb 1))] [(.int (2 : Int32)), (.ref b)]))
  refine Go.of (fun _ q => AF.caload A_b X2 hx hZ e2 ⟨rfl, by decide, by decide⟩ (v := (.int (gb 2))) rfl (g := (mkF m 12 #[.val (.ref b), .val (.int (2 : Int32)), .val (.ref d), .val (.int (2 : Int32)), .val (.int (3 : Int32)), .val (.int (2 : Int32)), .val (.int (gb 1))] [(.int (2 : Int32)), (.ref b)])) rfl rfl (hb hby d6_12) q) ?_
  show Go _ _ _ _ _ _ _ (T2.setTop (mkF m 13 #[.val (.ref b), .val (.int (2 : Int32)), .val (.ref d), .val (.int (2 : Int32)), .val (.int (3 : Int32)), .val (.int (2 : Int32)), .val (.int (gb 1))] [(.int (gb 2))]))
  refine Go.of (fun _ q => XS.istore X2.here hx rfl (hb hby d6_13) rfl (l' := #[.val (.ref b), .val (.int (2 : Int32)), .val (.ref d), .val (.int (2 : Int32)), .val (.int (3 : Int32)), .val (.int (2 : Int32)), .val (.int (gb 2))]) rfl q) ?_
  show Go _ _ _ _ _ _ _ (T2.setTop (mkF m 15 #[.val (.ref b), .val (.int (2 : Int32)), .val (.ref d), .val (.int (2 : Int32)), .val (.int (3 : Int32)), .val (.int (2 : Int32)), .val (.int (gb 2))] []))
  refine Go.of (fun _ q => XS.iload X2.here hx rfl (hb hby d6_15) rfl q) ?_
  show Go _ _ _ _ _ _ _ (T2.setTop (mkF m 17 #[.val (.ref b), .val (.int (2 : Int32)), .val (.ref d), .val (.int (2 : Int32)), .val (.int (3 : Int32)), .val (.int (2 : Int32)), .val (.int (gb 2))] [(.int (gb 2))]))
  refine Go.of (fun _ q => XS.sipush X2.here hx rfl (hb hby d6_17) q) ?_
  show Go _ _ _ _ _ _ _ (T2.setTop (mkF m 20 #[.val (.ref b), .val (.int (2 : Int32)), .val (.ref d), .val (.int (2 : Int32)), .val (.int (3 : Int32)), .val (.int (2 : Int32)), .val (.int (gb 2))] [(.int (255 : Int32)), (.int (gb 2))]))
  refine Go.of (fun _ q => XS.icmpYes X2.here hx rfl (pc0 := 20) (pc' := 26) rfl (hb hby d6_20) rfl (flt (hg 2 (by decide))).2.2.2 (by decide) (by decide) q) ?_
  show Go _ _ _ _ _ _ _ (T2.setTop (mkF m 26 #[.val (.ref b), .val (.int (2 : Int32)), .val (.ref d), .val (.int (2 : Int32)), .val (.int (3 : Int32)), .val (.int (2 : Int32)), .val (.int (gb 2))] []))
  refine Go.of (fun _ q => XS.aloadN X2.here hx rfl (hb hby d6_26) rfl rfl q) ?_
  show Go _ _ _ _ _ _ _ (T2.setTop (mkF m 27 #[.val (.ref b), .val (.int (2 : Int32)), .val (.ref d), .val (.int (2 : Int32)), .val (.int (3 : Int32)), .val (.int (2 : Int32)), .val (.int (gb 2))] [(.ref d)]))
  refine Go.of (fun _ q => XS.iloadN X2.here hx rfl (hb hby d6_27) rfl q) ?_
  show Go _ _ _ _ _ _ _ (T2.setTop (mkF m 28 #[.val (.ref b), .val (.int (2 : Int32)), .val (.ref d), .val (.int (2 : Int32)), .val (.int (3 : Int32)), .val (.int (2 : Int32)), .val (.int (gb 2))] [(.int (2 : Int32)), (.ref d)]))
  refine Go.of (fun _ q => XS.iload X2.here hx rfl (hb hby d6_28) rfl q) ?_
  show Go _ _ _ _ _ _ _ (T2.setTop (mkF m 30 #[.val (.ref b), .val (.int (2 : Int32)), .val (.ref d), .val (.int (2 : Int32)), .val (.int (3 : Int32)), .val (.int (2 : Int32)), .val (.int (gb 2))] [(.int (gb 2)), (.int (2 : Int32)), (.ref d)]))
  refine Go.of (fun _ q => XS.i2b X2.here hx rfl (hb hby d6_30) rfl q) ?_
  show Go _ _ _ _ _ _ _ (T2.setTop (mkF m 31 #[.val (.ref b), .val (.int (2 : Int32)), .val (.ref d), .val (.int (2 : Int32)), .val (.int (3 : Int32)), .val (.int (2 : Int32)), .val (.int (gb 2))] [(.int ((gb 2).toInt8.toInt32)), (.int (2 : Int32)), (.ref d)]))
  obtain ⟨T3, h3, X3, e3, W3, A3', st3⟩ := AF.bastore A_d X2 hx hZ e2 (i := 2) ⟨rfl, by decide, by decide⟩ (g := (mkF m 31 #[.val (.ref b), .val (.int (2 : Int32)), .val (.ref d), .val (.int (2 : Int32)), .val (.int (3 : Int32)), .val (.int (2 : Int32)), .val (.int (gb 2))] [(.int ((gb 2).toInt8.toInt32)), (.int (2 : Int32)), (.ref d)])) rfl rfl (hb hby d6_31)
  refine Go.of st3 ?_
  have Zs := Nat.le_trans Zs (Nat.le_of_eq W3.size.symm)
  have Kp := Kp.wr W3 (Or.inl (List.mem_of_getElem? (i := 0) rfl))
  have A_b := A_b.other W3 ne_b_d
  have A_d : AF Z h3 d kd .byte 3 (fun i => .int ((upI (upI (upI gd 0 (((gb 0).toInt8.toInt32).toInt8.toInt32)) 1 (((gb 1).toInt8.toInt32).toInt8.toInt32)) 2 (((gb 2).toInt8.toInt32).toInt8.toInt32)) i)) := A3'.toI
  have N3 := Fr.snoc X3 N2 g_d
  show Go _ _ _ _ _ _ _ (T3.setTop (mkF m 32 #[.val (.ref b), .val (.int (2 : Int32)), .val (.ref d), .val (.int (2 : Int32)), .val (.int (3 : Int32)), .val (.int (2 : Int32)), .val (.int (gb 2))] []))
  refine Go.of (fun _ q => XS.iinc X3.here hx rfl (hb hby d6_32) rfl (l' := #[.val (.ref b), .val (.int (3 : Int32)), .val (.ref d), .val (.int (2 : Int32)), .val (.int (3 : Int32)), .val (.int (2 : Int32)), .val (.int (gb 2))]) rfl q) ?_
  show Go _ _ _ _ _ _ _ (T3.setTop (mkF m 35 #[.val (.ref b), .val (.int (3 : Int32)), .val (.ref d), .val (.int (2 : Int32)), .val (.int (3 : Int32)), .val (.int (2 : Int32)), .val (.int (gb 2))] []))
  refine Go.of (fun _ q => XS.iinc X3.here hx rfl (hb hby d6_35) rfl (l' := #[.val (.ref b), .val (.int (3 : Int32)), .val (.ref d), .val (.int (3 : Int32)), .val (.int (3 : Int32)), .val (.int (2 : Int32)), .val (.int (gb 2))]) rfl q) ?_
  show Go _ _ _ _ _ _ _ (T3.setTop (mkF m 38 #[.val (.ref b), .val (.int (3 : Int32)), .val (.ref d), .val (.int (3 : Int32)), .val (.int (3 : Int32)), .val (.int (2 : Int32)), .val (.int (gb 2))] []))
  refine Go.of (fun _ q => XS.iinc X3.here hx rfl (hb hby d6_38) rfl (l' := #[.val (.ref b), .val (.int (3 : Int32)), .val (.ref d), .val (.int (3 : Int32)), .val (.int (3 : Int32)), .val (.int (3 : Int32)), .val (.int (gb 2))]) rfl q) ?_
  show Go _ _ _ _ _ _ _ (T3.setTop (mkF m 41 #[.val (.ref b), .val (.int (3 : Int32)), .val (.ref d), .val (.int (3 : Int32)), .val (.int (3 : Int32)), .val (.int (3 : Int32)), .val (.int (gb 2))] []))
  refine Go.of (fun _ q => XS.goto X3.here hx rfl (pc0 := 41) (pc' := 3) rfl (hb hby d6_41) (by decide) (by decide) q) ?_
  show Go _ _ _ _ _ _ _ (T3.setTop (mkF m 3 #[.val (.ref b), .val (.int (3 : Int32)), .val (.ref d), .val (.int (3 : Int32)), .val (.int (3 : Int32)), .val (.int (3 : Int32)), .val (.int (gb 2))] []))
  refine Go.of (fun _ q => XS.iload X3.here hx rfl (hb hby d6_3) rfl q) ?_
  show Go _ _ _ _ _ _ _ (T3.setTop (mkF m 5 #[.val (.ref b), .val (.int (3 : Int32)), .val (.ref d), .val (.int (3 : Int32)), .val (.int (3 : Int32)), .val (.int (3 : Int32)), .val (.int (gb 2))] [(.int (3 : Int32))]))
  refine Go.of (fun _ q => XS.iload X3.here hx rfl (hb hby d6_5) rfl q) ?_
  show Go _ _ _ _ _ _ _ (T3.setTop (mkF m 7 #[.val (.ref b), .val (.int (3 : Int32)), .val (.ref d), .val (.int (3 : Int32)), .val (.int (3 : Int32)), .val (.int (3 : Int32)), .val (.int (gb 2))] [(.int (3 : Int32)), (.int (3 : Int32))]))
  refine Go.of (fun _ q => XS.icmpYes X3.here hx rfl (pc0 := 7) (pc' := 44) rfl (hb hby d6_7) rfl (flt (by decide)).2.1 (by decide) (by decide) q) ?_
  show Go _ _ _ _ _ _ _ (T3.setTop (mkF m 44 #[.val (.ref b), .val (.int (3 : Int32)), .val (.ref d), .val (.int (3 : Int32)), .val (.int (3 : Int32)), .val (.int (3 : Int32)), .val (.int (gb 2))] []))
  refine Go.of (fun _ q => XS.iload X3.here hx rfl (hb hby d6_44) rfl q) ?_
  show Go _ _ _ _ _ _ _ (T3.setTop (mkF m 46 #[.val (.ref b), .val (.int (3 : Int32)), .val (.ref d), .val (.int (3 : Int32)), .val (.int (3 : Int32)), .val (.int (3 : Int32)), .val (.int (gb 2))] [(.int (3 : Int32))]))
  refine Go.retI X3 hx hlk hret (hb hby d6_46) (by decide) (by decide) ?_
  rw [e3]
  exact ⟨rfl, N3, Kp, (AF.cast A_d (fun i hi => by rcases (show i = 0 ∨ i = 1 ∨ i = 2 by omega) with rfl | rfl | rfl <;> simp [upI, own_by]))⟩
theorem ef_5_s3 (m : MethodId) (b : Addr) : entryFrame m #[(.ref b), (.int (0 : Int32)), (.int (3 : Int32))] 6 = mkF m 0 #[.val (.ref b), .val (.int (0 : Int32)), .val (.int (3 : Int32)), .unset, .unset, .unset] [] := by first | (simp [entryFrame, mkF, argsToLocals, Value.category]; done) | rfl
def Q5_s3 (Z : State) (b : Addr) (kb : ClassId) (gb : Nat → Int32) (h0 : Heap) (n0 : Nat) (v : Option Value) (h : Heap) (L : List Loc) : Prop := ∃ d : Addr, ∃ kd : ClassId, v = some (.ref d) ∧ Fr n0 L ∧ Keep h0 h [] ∧ h0.size ≤ d ∧ AF Z h d kd .byte 3 (fun i => .int ((fun i => own_by (gb i)) i))
set_option maxRecDepth 65536 in
set_option maxHeartbeats 40000000 in
theorem rm5_s3 (l : Launch) (Z : State) (a0 : Array Value) (hw : ∀ d ∈ tables_1, d.before a0 Z = true) (b : Addr) (kb : ClassId) (gb : Nat → Int32) (h0 : Heap) (n0 : Nat) (Zs : n0 ≤ h0.size) (A_b : AF Z h0 b kb .char 3 (fun i => .int (gb i))) (hg : ∀ i, i < 3 → ¬ (255 : Int32) < gb i) :
    Con l Z (⟨"java/lang/StringUTF16", "compress", "([CII)[B"⟩ : MethodName) jdk_52_method_16_code 6 (some (.array .byte)) ({ frames := 1, cells := 1, slots := 3, locals := 18 } : Room) #[(.ref b), (.int (0 : Int32)), (.int (3 : Int32))] h0 (Q5_s3 Z b kb gb h0 n0) := by
  refine Con.intro (plainFor_of_name pn5) (fun m => ef_5_s3 m b) ?_
  intro p e s m below meth c s₁ hx hby hml0 hZ hown hnm hret hlk X0 e0
  have hml : c.maxLocals = 6 := hml0
  have N0 := Fr.nil n0
  have Kp : Keep h0 h0 [] := Keep.refl h0 _
  show Go _ _ _ _ _ _ _ (s₁.setTop (mkF m 0 #[.val (.ref b), .val (.int (0 : Int32)), .val (.int (3 : Int32)), .unset, .unset, .unset] []))
  refine Go.of (fun _ q => XS.iloadN X0.here hx rfl (hb hby d5_0) rfl q) ?_
  show Go _ _ _ _ _ _ _ (s₁.setTop (mkF m 1 #[.val (.ref b), .val (.int (0 : Int32)), .val (.int (3 : Int32)), .unset, .unset, .unset] [(.int (3 : Int32))]))
  obtain ⟨T1, h1, k1, X1, e1, E1, A1, B1, st1⟩ := newPE X0 hx hZ (hw _ (List.mem_of_getElem? (i := 24) rfl)) e0 (g := (mkF m 1 #[.val (.ref b), .val (.int (0 : Int32)), .val (.int (3 : Int32)), .unset, .unset, .unset] [(.int (3 : Int32))])) rfl (hb hby d5_1) rfl (by decide) (cap := 3) (by decide) (by decide) (by decide) (by decide) (ad := "[B") (by decide)
  obtain ⟨d, g1⟩ : ∃ z, z = h0.size := ⟨_, rfl⟩
  rw [← g1] at A1 B1 st1
  refine Go.of st1 ?_
  have g_d : n0 ≤ d := Nat.le_trans Zs (Nat.le_of_eq g1.symm)
  have sz_d : h0.size ≤ d := Nat.le_trans Kp.1 (Nat.le_of_eq g1.symm)
  have ne_b_d : b ≠ d := Nat.ne_of_lt (Nat.lt_of_lt_of_le A_b.lt (Nat.le_of_eq g1.symm))
  have Zs := Nat.le_trans Zs E1.1
  have Kp := Kp.ext E1
  have A_b := A_b.ext E1
  have E_d := B1
  have A_d : AF Z h1 d k1 .byte 3 (fun i => .int ((fun _ => (0 : Int32)) i)) := AF.new A1 (by decide) rfl rfl
  show Go _ _ _ _ _ _ _ (T1.setTop (mkF m 3 #[.val (.ref b), .val (.int (0 : Int32)), .val (.int (3 : Int32)), .unset, .unset, .unset] [(.ref d)]))
  refine Go.of (fun _ q => XS.astoreN X1.here hx rfl (hb hby d5_3) rfl rfl (l' := #[.val (.ref b), .val (.int (0 : Int32)), .val (.int (3 : Int32)), .val (.ref d), .unset, .unset]) rfl q) ?_
  show Go _ _ _ _ _ _ _ (T1.setTop (mkF m 4 #[.val (.ref b), .val (.int (0 : Int32)), .val (.int (3 : Int32)), .val (.ref d), .unset, .unset] []))
  refine Go.of (fun _ q => XS.aloadN X1.here hx rfl (hb hby d5_4) rfl rfl q) ?_
  show Go _ _ _ _ _ _ _ (T1.setTop (mkF m 5 #[.val (.ref b), .val (.int (0 : Int32)), .val (.int (3 : Int32)), .val (.ref d), .unset, .unset] [(.ref b)]))
  refine Go.of (fun _ q => XS.iloadN X1.here hx rfl (hb hby d5_5) rfl q) ?_
  show Go _ _ _ _ _ _ _ (T1.setTop (mkF m 6 #[.val (.ref b), .val (.int (0 : Int32)), .val (.int (3 : Int32)), .val (.ref d), .unset, .unset] [(.int (0 : Int32)), (.ref b)]))
  refine Go.of (fun _ q => XS.aloadN X1.here hx rfl (hb hby d5_6) rfl rfl q) ?_
  show Go _ _ _ _ _ _ _ (T1.setTop (mkF m 7 #[.val (.ref b), .val (.int (0 : Int32)), .val (.int (3 : Int32)), .val (.ref d), .unset, .unset] [(.ref d), (.int (0 : Int32)), (.ref b)]))
  refine Go.of (fun _ q => XS.iconst X1.here hx rfl (hb hby d5_7) q) ?_
  show Go _ _ _ _ _ _ _ (T1.setTop (mkF m 8 #[.val (.ref b), .val (.int (0 : Int32)), .val (.int (3 : Int32)), .val (.ref d), .unset, .unset] [(.int (0 : Int32)), (.ref d), (.int (0 : Int32)), (.ref b)]))
  refine Go.of (fun _ q => XS.iloadN X1.here hx rfl (hb hby d5_8) rfl q) ?_
  show Go _ _ _ _ _ _ _ (T1.setTop (mkF m 9 #[.val (.ref b), .val (.int (0 : Int32)), .val (.int (3 : Int32)), .val (.ref d), .unset, .unset] [(.int (3 : Int32)), (.int (0 : Int32)), (.ref d), (.int (0 : Int32)), (.ref b)]))
  refine Go.static X1 hx hZ (y := (⟨"java/lang/StringUTF16", "compress", "([CI[BII)I"⟩ : MethodName)) (argsL := [(.ref b), (.int (0 : Int32)), (.ref d), (.int (0 : Int32)), (.int (3 : Int32))]) hown (hw _ (List.mem_of_getElem? (i := 25) rfl)) (hw _ (List.mem_of_getElem? (i := 26) rfl)) (hw _ (List.mem_of_getElem? (i := 22) rfl)) (hw _ (List.mem_of_getElem? (i := 27) rfl)) (by decide) 0 e1 (rm6_s3 l Z a0 hw b d kb gb k1 (fun _ => (0 : Int32)) h1 n0 Zs A_b A_d ne_b_d g_d hg) (by decide) (by decide) (by decide) (by decide) (g := (mkF m 9 #[.val (.ref b), .val (.int (0 : Int32)), .val (.int (3 : Int32)), .val (.ref d), .unset, .unset] [(.int (3 : Int32)), (.int (0 : Int32)), (.ref d), (.int (0 : Int32)), (.ref b)])) rfl (by rw [hml]; rfl) (rest := []) (lenOf pd13 rfl) rfl (by show 2 * 0 + _ ≤ _; exact Nat.le_of_eq rfl) (hb hby d5_9) ?_
  intro T2 v2 L2 X2 q2
  obtain ⟨rfl, Nq2, K2, f2_0⟩ := q2
  have N2 := Fr.app N0 Nq2
  have Zs := Nat.le_trans Zs K2.1
  have Kp := Kp.trans K2 (allS (P := fun x => x ∈ [] ∨ h0.size ≤ x) (Or.inr sz_d) all0)
  have A_b := A_b.keep K2 (ninS ne_b_d nin0)
  have E_d := E_d.keep K2
  have A_d := f2_0
  show Go _ _ _ _ _ _ _ (T2.setTop (mkF m 12 #[.val (.ref b), .val (.int (0 : Int32)), .val (.int (3 : Int32)), .val (.ref d), .unset, .unset] [(.int (3 : Int32))]))
  refine Go.of (fun _ q => XS.istore X2.here hx rfl (hb hby d5_12) rfl (l' := #[.val (.ref b), .val (.int (0 : Int32)), .val (.int (3 : Int32)), .val (.ref d), .val (.int (3 : Int32)), .unset]) rfl q) ?_
  show Go _ _ _ _ _ _ _ (T2.setTop (mkF m 14 #[.val (.ref b), .val (.int (0 : Int32)), .val (.int (3 : Int32)), .val (.ref d), .val (.int (3 : Int32)), .unset] []))
  refine Go.of (fun _ q => XS.iload X2.here hx rfl (hb hby d5_14) rfl q) ?_
  show Go _ _ _ _ _ _ _ (T2.setTop (mkF m 16 #[.val (.ref b), .val (.int (0 : Int32)), .val (.int (3 : Int32)), .val (.ref d), .val (.int (3 : Int32)), .unset] [(.int (3 : Int32))]))
  refine Go.of (fun _ q => XS.iloadN X2.here hx rfl (hb hby d5_16) rfl q) ?_
  show Go _ _ _ _ _ _ _ (T2.setTop (mkF m 17 #[.val (.ref b), .val (.int (0 : Int32)), .val (.int (3 : Int32)), .val (.ref d), .val (.int (3 : Int32)), .unset] [(.int (3 : Int32)), (.int (3 : Int32))]))
  refine Go.of (fun _ q => XS.icmpYes X2.here hx rfl (pc0 := 17) (pc' := 57) rfl (hb hby d5_17) rfl (teq rfl).1 (by decide) (by decide) q) ?_
  show Go _ _ _ _ _ _ _ (T2.setTop (mkF m 57 #[.val (.ref b), .val (.int (0 : Int32)), .val (.int (3 : Int32)), .val (.ref d), .val (.int (3 : Int32)), .unset] []))
  refine Go.of (fun _ q => XS.aloadN X2.here hx rfl (hb hby d5_57) rfl rfl q) ?_
  show Go _ _ _ _ _ _ _ (T2.setTop (mkF m 58 #[.val (.ref b), .val (.int (0 : Int32)), .val (.int (3 : Int32)), .val (.ref d), .val (.int (3 : Int32)), .unset] [(.ref d)]))
  refine Go.retA X2 hx hlk hret rfl rfl (hb hby d5_58) (by decide) (by decide) ?_
  exact ⟨d, k1, rfl, N2, Kp, sz_d, A_d⟩
theorem ef_7_s3 (m : MethodId) (d : Addr) : entryFrame m #[(.ref d), (.int (3 : Int32))] 2 = mkF m 0 #[.val (.ref d), .val (.int (3 : Int32))] [] := by first | (simp [entryFrame, mkF, argsToLocals, Value.category]; done) | rfl
def Q7_s3 (Z : State) (d : Addr) (kd : ClassId) (gd : Nat → Int32) (h0 : Heap) (n0 : Nat) (v : Option Value) (h : Heap) (L : List Loc) : Prop := v = some (.int (0 : Int32)) ∧ Fr n0 L ∧ h = h0
set_option maxRecDepth 65536 in
set_option maxHeartbeats 40000000 in
theorem rm7_s3 (l : Launch) (Z : State) (a0 : Array Value) (hw : ∀ d ∈ tables_1, d.before a0 Z = true) (d : Addr) (kd : ClassId) (gd : Nat → Int32) (h0 : Heap) (n0 : Nat) (Zs : n0 ≤ h0.size) (A_d : AF Z h0 d kd .byte 3 (fun i => .int (gd i))) :
    Con l Z (⟨"java/lang/StringUTF16", "coderFromArrayLen", "([BI)B"⟩ : MethodName) jdk_52_method_15_code 2 (some .byte) ({ frames := 0, cells := 0, slots := 0, locals := 0 } : Room) #[(.ref d), (.int (3 : Int32))] h0 (Q7_s3 Z d kd gd h0 n0) := by
  refine Con.intro (plainFor_of_name pn5) (fun m => ef_7_s3 m d) ?_
  intro p e s m below meth c s₁ hx hby hml0 hZ hown hnm hret hlk X0 e0
  have hml : c.maxLocals = 2 := hml0
  have N0 := Fr.nil n0
  have Kp : Keep h0 h0 [] := Keep.refl h0 _
  show Go _ _ _ _ _ _ _ (s₁.setTop (mkF m 0 #[.val (.ref d), .val (.int (3 : Int32))] []))
  refine Go.of (fun _ q => XS.iloadN X0.here hx rfl (hb hby d7_0) rfl q) ?_
  show Go _ _ _ _ _ _ _ (s₁.setTop (mkF m 1 #[.val (.ref d), .val (.int (3 : Int32))] [(.int (3 : Int32))]))
  refine Go.of (fun _ q => XS.aloadN X0.here hx rfl (hb hby d7_1) rfl rfl q) ?_
  show Go _ _ _ _ _ _ _ (s₁.setTop (mkF m 2 #[.val (.ref d), .val (.int (3 : Int32))] [(.ref d), (.int (3 : Int32))]))
  refine Go.of (fun _ q => AF.length A_d X0 hx hZ e0 rfl (g := (mkF m 2 #[.val (.ref d), .val (.int (3 : Int32))] [(.ref d), (.int (3 : Int32))])) rfl rfl (hb hby d7_2) q) ?_
  show Go _ _ _ _ _ _ _ (s₁.setTop (mkF m 3 #[.val (.ref d), .val (.int (3 : Int32))] [(.int (3 : Int32)), (.int (3 : Int32))]))
  refine Go.of (fun _ q => XS.isub X0.here hx rfl (hb hby d7_3) rfl q) ?_
  show Go _ _ _ _ _ _ _ (s₁.setTop (mkF m 4 #[.val (.ref d), .val (.int (3 : Int32))] [(.int (0 : Int32))]))
  refine Go.of (fun _ q => XS.bipush X0.here hx rfl (hb hby d7_4) q) ?_
  show Go _ _ _ _ _ _ _ (s₁.setTop (mkF m 6 #[.val (.ref d), .val (.int (3 : Int32))] [(.int (31 : Int32)), (.int (0 : Int32))]))
  refine Go.of (fun _ q => XS.iushr X0.here hx rfl (hb hby d7_6) rfl q) ?_
  show Go _ _ _ _ _ _ _ (s₁.setTop (mkF m 7 #[.val (.ref d), .val (.int (3 : Int32))] [(.int (0 : Int32))]))
  refine Go.of (fun _ q => XS.i2b X0.here hx rfl (hb hby d7_7) rfl q) ?_
  show Go _ _ _ _ _ _ _ (s₁.setTop (mkF m 8 #[.val (.ref d), .val (.int (3 : Int32))] [(.int (0 : Int32))]))
  refine Go.retN X0 hx hlk (t := .byte) hret (by simp) (hb hby d7_8) rfl (by decide) (by decide) ?_
  rw [e0]
  exact ⟨rfl, N0, rfl⟩
theorem ef_3_s3 (m : MethodId) (a : Addr) (b : Addr) : entryFrame m #[(.ref a), (.ref b), (.int (0 : Int32)), (.int (3 : Int32)), .null] 6 = mkF m 0 #[.val (.ref a), .val (.ref b), .val (.int (0 : Int32)), .val (.int (3 : Int32)), .val .null, .unset] [] := by first | (simp [entryFrame, mkF, argsToLocals, Value.category]; done) | rfl
def Q3_s3 (Z : State) (a : Addr) (b : Addr) (kb : ClassId) (gb : Nat → Int32) (u1 : Value) (u2 : Int32) (cs : Int32) (h0 : Heap) (n0 : Nat) (v : Option Value) (h : Heap) (L : List Loc) : Prop := ∃ d : Addr, ∃ kd : ClassId, v = none ∧ Fr n0 L ∧ Keep h0 h [a] ∧ h0.size ≤ d ∧ Exa Z h a "java/lang/String" ∧ Fld Z h a "java/lang/String" "value" "[B" (.ref d) ∧ Fld Z h a "java/lang/String" "coder" "B" (.int (0 : Int32)) ∧ AF Z h d kd .byte 3 (fun i => .int ((fun i => own_by (gb i)) i))
set_option maxRecDepth 65536 in
set_option maxHeartbeats 40000000 in
theorem rm3_s3 (l : Launch) (Z : State) (a0 : Array Value) (hw : ∀ d ∈ tables_1, d.before a0 Z = true) (a : Addr) (b : Addr) (kb : ClassId) (gb : Nat → Int32) (u1 : Value) (u2 : Int32) (cs : Int32) (h0 : Heap) (n0 : Nat) (Zs : n0 ≤ h0.size) (Od : Old Z n0 h0) (E_a : Exa Z h0 a "java/lang/String") (F_a_value : Fld Z h0 a "java/lang/String" "value" "[B" u1) (F_a_coder : Fld Z h0 a "java/lang/String" "coder" "B" (.int u2)) (g_a : n0 ≤ a) (A_b : AF Z h0 b kb .char 3 (fun i => .int (gb i))) (ne_b_a : b ≠ a) (hg : ∀ i, i < 3 → ¬ (255 : Int32) < gb i) (Scs : Sta Z Z.heap "java/lang/String" "COMPACT_STRINGS" "Z" (.int cs)) (hcs : ¬ cs = (0 : Int32)) :
    Con l Z (⟨"java/lang/String", "<init>", "([CIILjava/lang/Void;)V"⟩ : MethodName) jdk_42_method_149_code 6 none ({ frames := 2, cells := 1, slots := 3, locals := 35 } : Room) #[(.ref a), (.ref b), (.int (0 : Int32)), (.int (3 : Int32)), .null] h0 (Q3_s3 Z a b kb gb u1 u2 cs h0 n0) := by
  refine Con.intro (plainFor_of_name pn0) (fun m => ef_3_s3 m a b) ?_
  intro p e s m below meth c s₁ hx hby hml0 hZ hown hnm hret hlk X0 e0
  have hml : c.maxLocals = 6 := hml0
  have N0 := Fr.nil n0
  have Kp : Keep h0 h0 [a] := Keep.refl h0 _
  show Go _ _ _ _ _ _ _ (s₁.setTop (mkF m 0 #[.val (.ref a), .val (.ref b), .val (.int (0 : Int32)), .val (.int (3 : Int32)), .val .null, .unset] []))
  refine Go.of (fun _ q => XS.aloadN X0.here hx rfl (hb hby d3_0) rfl rfl q) ?_
  show Go _ _ _ _ _ _ _ (s₁.setTop (mkF m 1 #[.val (.ref a), .val (.ref b), .val (.int (0 : Int32)), .val (.int (3 : Int32)), .val .null, .unset] [(.ref a)]))
  obtain ⟨T1, X1, e1, st1⟩ := initO X0 hx hZ hown (hw _ (List.mem_of_getElem? (i := 16) rfl)) (hw _ (List.mem_of_getElem? (i := 17) rfl)) (hw _ (List.mem_of_getElem? (i := 18) rfl)) e0 (g := (mkF m 1 #[.val (.ref a), .val (.ref b), .val (.int (0 : Int32)), .val (.int (3 : Int32)), .val .null, .unset] [(.ref a)])) rfl (by rw [hml]; rfl) rfl (hb hby d3_1) (by decide) (W := 0) (by show 2 * 0 + _ ≤ _; exact Nat.le_of_eq rfl) (by decide)
  refine Go.of st1 ?_
  show Go _ _ _ _ _ _ _ (T1.setTop (mkF m 4 #[.val (.ref a), .val (.ref b), .val (.int (0 : Int32)), .val (.int (3 : Int32)), .val .null, .unset] []))
  refine Go.of (fun _ q => XS.iloadN X1.here hx rfl (hb hby d3_4) rfl q) ?_
  show Go _ _ _ _ _ _ _ (T1.setTop (mkF m 5 #[.val (.ref a), .val (.ref b), .val (.int (0 : Int32)), .val (.int (3 : Int32)), .val .null, .unset] [(.int (3 : Int32))]))
  refine Go.of (fun _ q => XS.ifYes X1.here hx rfl (pc0 := 5) (pc' := 27) rfl (hb hby d3_5) rfl ((if0 _ _).trans (feq (by decide)).2) (by decide) (by decide) q) ?_
  show Go _ _ _ _ _ _ _ (T1.setTop (mkF m 27 #[.val (.ref a), .val (.ref b), .val (.int (0 : Int32)), .val (.int (3 : Int32)), .val .null, .unset] []))
  obtain ⟨T2, X2, e2, st2⟩ := getS2 X1 hx hZ hown (host := "") (Or.inl (hw _ (List.mem_of_getElem? (i := 19) rfl))) Via.refl e1 (Sta.ext Od.2 Scs) (g := (mkF m 27 #[.val (.ref a), .val (.ref b), .val (.int (0 : Int32)), .val (.int (3 : Int32)), .val .null, .unset] [])) rfl (hb hby d3_27)
  refine Go.of st2 ?_
  show Go _ _ _ _ _ _ _ (T2.setTop (mkF m 30 #[.val (.ref a), .val (.ref b), .val (.int (0 : Int32)), .val (.int (3 : Int32)), .val .null, .unset] [(.int cs)]))
  refine Go.of (fun _ q => XS.ifNo X2.here hx rfl (hb hby d3_30) rfl ((if0 _ _).trans (feq hcs).1) q) ?_
  show Go _ _ _ _ _ _ _ (T2.setTop (mkF m 33 #[.val (.ref a), .val (.ref b), .val (.int (0 : Int32)), .val (.int (3 : Int32)), .val .null, .unset] []))
  refine Go.of (fun _ q => XS.aloadN X2.here hx rfl (hb hby d3_33) rfl rfl q) ?_
  show Go _ _ _ _ _ _ _ (T2.setTop (mkF m 34 #[.val (.ref a), .val (.ref b), .val (.int (0 : Int32)), .val (.int (3 : Int32)), .val .null, .unset] [(.ref b)]))
  refine Go.of (fun _ q => XS.iloadN X2.here hx rfl (hb hby d3_34) rfl q) ?_
  show Go _ _ _ _ _ _ _ (T2.setTop (mkF m 35 #[.val (.ref a), .val (.ref b), .val (.int (0 : Int32)), .val (.int (3 : Int32)), .val .null, .unset] [(.int (0 : Int32)), (.ref b)]))
  refine Go.of (fun _ q => XS.iloadN X2.here hx rfl (hb hby d3_35) rfl q) ?_
  show Go _ _ _ _ _ _ _ (T2.setTop (mkF m 36 #[.val (.ref a), .val (.ref b), .val (.int (0 : Int32)), .val (.int (3 : Int32)), .val .null, .unset] [(.int (3 : Int32)), (.int (0 : Int32)), (.ref b)]))
  refine Go.static X2 hx hZ (y := (⟨"java/lang/StringUTF16", "compress", "([CII)[B"⟩ : MethodName)) (argsL := [(.ref b), (.int (0 : Int32)), (.int (3 : Int32))]) hown (hw _ (List.mem_of_getElem? (i := 20) rfl)) (hw _ (List.mem_of_getElem? (i := 21) rfl)) (hw _ (List.mem_of_getElem? (i := 22) rfl)) (hw _ (List.mem_of_getElem? (i := 23) rfl)) (by decide) 0 e2 (rm5_s3 l Z a0 hw b kb gb h0 n0 Zs A_b hg) (by decide) (by decide) (by decide) (by decide) (g := (mkF m 36 #[.val (.ref a), .val (.ref b), .val (.int (0 : Int32)), .val (.int (3 : Int32)), .val .null, .unset] [(.int (3 : Int32)), (.int (0 : Int32)), (.ref b)])) rfl (by rw [hml]; rfl) (rest := []) (lenOf pd14 rfl) rfl (by show 2 * 0 + _ ≤ _; exact Nat.le_of_eq rfl) (hb hby d3_36) ?_
  intro T3 v3 L3 X3 q3
  obtain ⟨d, kd, rfl, Nq3, K3, f3_0, f3_1⟩ := q3
  have N3 := Fr.app N0 Nq3
  have g_d : n0 ≤ d := Nat.le_trans Zs f3_0
  have sz_d : h0.size ≤ d := Nat.le_trans Kp.1 f3_0
  have ne_a_d : a ≠ d := Nat.ne_of_lt (Nat.lt_of_lt_of_le E_a.lt f3_0)
  have ne_b_d : b ≠ d := Nat.ne_of_lt (Nat.lt_of_lt_of_le A_b.lt f3_0)
  have Zs := Nat.le_trans Zs K3.1
  have Kp := Kp.trans K3 all0
  have Od := Od.keep K3 all0
  have E_a := E_a.keep K3
  have F_a_value := F_a_value.keep K3 nin0
  have F_a_coder := F_a_coder.keep K3 nin0
  have A_b := A_b.keep K3 nin0
  have A_d := f3_1
  show Go _ _ _ _ _ _ _ (T3.setTop (mkF m 39 #[.val (.ref a), .val (.ref b), .val (.int (0 : Int32)), .val (.int (3 : Int32)), .val .null, .unset] [(.ref d)]))
  refine Go.of (fun _ q => XS.astore X3.here hx rfl (hb hby d3_39) rfl rfl (l' := #[.val (.ref a), .val (.ref b), .val (.int (0 : Int32)), .val (.int (3 : Int32)), .val .null, .val (.ref d)]) rfl q) ?_
  show Go _ _ _ _ _ _ _ (T3.setTop (mkF m 41 #[.val (.ref a), .val (.ref b), .val (.int (0 : Int32)), .val (.int (3 : Int32)), .val .null, .val (.ref d)] []))
  refine Go.of (fun _ q => XS.aloadN X3.here hx rfl (hb hby d3_41) rfl rfl q) ?_
  show Go _ _ _ _ _ _ _ (T3.setTop (mkF m 42 #[.val (.ref a), .val (.ref b), .val (.int (0 : Int32)), .val (.int (3 : Int32)), .val .null, .val (.ref d)] [(.ref a)]))
  refine Go.of (fun _ q => XS.aload X3.here hx rfl (hb hby d3_42) rfl rfl q) ?_
  show Go _ _ _ _ _ _ _ (T3.setTop (mkF m 44 #[.val (.ref a), .val (.ref b), .val (.int (0 : Int32)), .val (.int (3 : Int32)), .val .null, .val (.ref d)] [(.ref d), (.ref a)]))
  refine Go.of (fun _ q => XS.iloadN X3.here hx rfl (hb hby d3_44) rfl q) ?_
  show Go _ _ _ _ _ _ _ (T3.setTop (mkF m 45 #[.val (.ref a), .val (.ref b), .val (.int (0 : Int32)), .val (.int (3 : Int32)), .val .null, .val (.ref d)] [(.int (3 : Int32)), (.ref d), (.ref a)]))
  refine Go.static X3 hx hZ (y := (⟨"java/lang/StringUTF16", "coderFromArrayLen", "([BI)B"⟩ : MethodName)) (argsL := [(.ref d), (.int (3 : Int32))]) hown (hw _ (List.mem_of_getElem? (i := 28) rfl)) (hw _ (List.mem_of_getElem? (i := 29) rfl)) (hw _ (List.mem_of_getElem? (i := 22) rfl)) (hw _ (List.mem_of_getElem? (i := 30) rfl)) (by decide) 1 rfl (rm7_s3 l Z a0 hw d kd (fun i => own_by (gb i)) T3.heap n0 Zs A_d) (by decide) (by decide) (by decide) (by decide) (g := (mkF m 45 #[.val (.ref a), .val (.ref b), .val (.int (0 : Int32)), .val (.int (3 : Int32)), .val .null, .val (.ref d)] [(.int (3 : Int32)), (.ref d), (.ref a)])) rfl (by rw [hml]; rfl) (rest := [(.ref a)]) (lenOf pd15 rfl) rfl (by show 2 * 0 + _ ≤ _; exact Nat.le_of_eq rfl) (hb hby d3_45) ?_
  intro T4 v4 L4 X4 q4
  obtain ⟨rfl, Nq4, e4⟩ := q4
  have N4 := Fr.app N3 Nq4
  show Go _ _ _ _ _ _ _ (T4.setTop (mkF m 48 #[.val (.ref a), .val (.ref b), .val (.int (0 : Int32)), .val (.int (3 : Int32)), .val .null, .val (.ref d)] [(.int (0 : Int32)), (.ref a)]))
  obtain ⟨T5, h5, X5, e5, W5, st5⟩ := putFN X4 hx hZ hown (hw _ (List.mem_of_getElem? (i := 31) rfl)) Via.refl e4 F_a_coder E_a (Or.inr ⟨(hw _ (List.mem_of_getElem? (i := 32) rfl)), rfl, hnm⟩) (hw _ (List.mem_of_getElem? (i := 6) rfl)) (ty := .byte) (v' := .int (0 : Int32)) (by decide) rfl rfl (g := (mkF m 48 #[.val (.ref a), .val (.ref b), .val (.int (0 : Int32)), .val (.int (3 : Int32)), .val .null, .val (.ref d)] [(.int (0 : Int32)), (.ref a)])) rfl rfl (hb hby d3_48)
  refine Go.of st5 ?_
  have Zs := Nat.le_trans Zs (Nat.le_of_eq W5.size.symm)
  have Kp := Kp.wr W5 (Or.inl (List.mem_of_getElem? (i := 0) rfl))
  have Od := Od.wr W5 g_a
  have E_a := E_a.wr W5
  have F_a_value := F_a_value.other W5 (Or.inr (slot_ne (Or.inr (hw _ (List.mem_of_getElem? (i := 34) rfl))) (Or.inr (hw _ (List.mem_of_getElem? (i := 32) rfl))) (by decide) (t := (.array .byte)) (t' := .byte) (by decide) (by decide)))
  have F_a_coder := F_a_coder.same W5
  have A_b := A_b.other W5 ne_b_a
  have A_d := A_d.other W5 (Ne.symm ne_a_d)
  have N5 := Fr.snoc X5 N4 g_a
  show Go _ _ _ _ _ _ _ (T5.setTop (mkF m 51 #[.val (.ref a), .val (.ref b), .val (.int (0 : Int32)), .val (.int (3 : Int32)), .val .null, .val (.ref d)] []))
  refine Go.of (fun _ q => XS.aloadN X5.here hx rfl (hb hby d3_51) rfl rfl q) ?_
  show Go _ _ _ _ _ _ _ (T5.setTop (mkF m 52 #[.val (.ref a), .val (.ref b), .val (.int (0 : Int32)), .val (.int (3 : Int32)), .val .null, .val (.ref d)] [(.ref a)]))
  refine Go.of (fun _ q => XS.aload X5.here hx rfl (hb hby d3_52) rfl rfl q) ?_
  show Go _ _ _ _ _ _ _ (T5.setTop (mkF m 54 #[.val (.ref a), .val (.ref b), .val (.int (0 : Int32)), .val (.int (3 : Int32)), .val .null, .val (.ref d)] [(.ref d), (.ref a)]))
  obtain ⟨T6, h6, X6, e6, W6, st6⟩ := putF X5 hx hZ hown (host := "") (Or.inl (hw _ (List.mem_of_getElem? (i := 33) rfl))) Via.refl e5 F_a_value E_a (Or.inr ⟨(hw _ (List.mem_of_getElem? (i := 34) rfl)), rfl, hnm⟩) (hw _ (List.mem_of_getElem? (i := 6) rfl)) (ty := (.array .byte)) (by decide) rfl rfl (g := (mkF m 54 #[.val (.ref a), .val (.ref b), .val (.int (0 : Int32)), .val (.int (3 : Int32)), .val .null, .val (.ref d)] [(.ref d), (.ref a)])) rfl rfl (hb hby d3_54)
  refine Go.of st6 ?_
  have Zs := Nat.le_trans Zs (Nat.le_of_eq W6.size.symm)
  have Kp := Kp.wr W6 (Or.inl (List.mem_of_getElem? (i := 0) rfl))
  have Od := Od.wr W6 g_a
  have E_a := E_a.wr W6
  have F_a_value := F_a_value.same W6
  have F_a_coder := F_a_coder.other W6 (Or.inr (slot_ne (Or.inr (hw _ (List.mem_of_getElem? (i := 32) rfl))) (Or.inr (hw _ (List.mem_of_getElem? (i := 34) rfl))) (by decide) (t := .byte) (t' := (.array .byte)) (by decide) (by decide)))
  have A_b := A_b.other W6 ne_b_a
  have A_d := A_d.other W6 (Ne.symm ne_a_d)
  have N6 := Fr.snoc X6 N5 g_a
  show Go _ _ _ _ _ _ _ (T6.setTop (mkF m 57 #[.val (.ref a), .val (.ref b), .val (.int (0 : Int32)), .val (.int (3 : Int32)), .val .null, .val (.ref d)] []))
  refine Go.retV X6 hx hlk hret (hb hby d3_57) (by decide) (by decide) ?_
  rw [e6]
  exact ⟨d, kd, rfl, N6, Kp, sz_d, E_a, F_a_value, F_a_coder, A_d⟩
theorem ef_2_s3 (m : MethodId) (a : Addr) (b : Addr) : entryFrame m #[(.ref a), (.ref b)] 2 = mkF m 0 #[.val (.ref a), .val (.ref b)] [] := by first | (simp [entryFrame, mkF, argsToLocals, Value.category]; done) | rfl
def Q2_s3 (Z : State) (a : Addr) (b : Addr) (kb : ClassId) (gb : Nat → Int32) (u1 : Value) (u2 : Int32) (cs : Int32) (h0 : Heap) (n0 : Nat) (v : Option Value) (h : Heap) (L : List Loc) : Prop := ∃ d : Addr, ∃ kd : ClassId, v = none ∧ Fr n0 L ∧ Keep h0 h [a] ∧ h0.size ≤ d ∧ Exa Z h a "java/lang/String" ∧ Fld Z h a "java/lang/String" "value" "[B" (.ref d) ∧ Fld Z h a "java/lang/String" "coder" "B" (.int (0 : Int32)) ∧ AF Z h d kd .byte 3 (fun i => .int ((fun i => own_by (gb i)) i))
set_option maxRecDepth 65536 in
set_option maxHeartbeats 40000000 in
theorem rm2_s3 (l : Launch) (Z : State) (a0 : Array Value) (hw : ∀ d ∈ tables_1, d.before a0 Z = true) (a : Addr) (b : Addr) (kb : ClassId) (gb : Nat → Int32) (u1 : Value) (u2 : Int32) (cs : Int32) (h0 : Heap) (n0 : Nat) (Zs : n0 ≤ h0.size) (Od : Old Z n0 h0) (E_a : Exa Z h0 a "java/lang/String") (F_a_value : Fld Z h0 a "java/lang/String" "value" "[B" u1) (F_a_coder : Fld Z h0 a "java/lang/String" "coder" "B" (.int u2)) (g_a : n0 ≤ a) (A_b : AF Z h0 b kb .char 3 (fun i => .int (gb i))) (ne_b_a : b ≠ a) (hg : ∀ i, i < 3 → ¬ (255 : Int32) < gb i) (Scs : Sta Z Z.heap "java/lang/String" "COMPACT_STRINGS" "Z" (.int cs)) (hcs : ¬ cs = (0 : Int32)) :
    Con l Z (⟨"java/lang/String", "<init>", "([C)V"⟩ : MethodName) jdk_42_method_3_code 2 none ({ frames := 3, cells := 1, slots := 3, locals := 52 } : Room) #[(.ref a), (.ref b)] h0 (Q2_s3 Z a b kb gb u1 u2 cs h0 n0) := by
  refine Con.intro (plainFor_of_name pn0) (fun m => ef_2_s3 m a b) ?_
  intro p e s m below meth c s₁ hx hby hml0 hZ hown hnm hret hlk X0 e0
  have hml : c.maxLocals = 2 := hml0
  have N0 := Fr.nil n0
  have Kp : Keep h0 h0 [a] := Keep.refl h0 _
  show Go _ _ _ _ _ _ _ (s₁.setTop (mkF m 0 #[.val (.ref a), .val (.ref b)] []))
  refine Go.of (fun _ q => XS.aloadN X0.here hx rfl (hb hby d2_0) rfl rfl q) ?_
  show Go _ _ _ _ _ _ _ (s₁.setTop (mkF m 1 #[.val (.ref a), .val (.ref b)] [(.ref a)]))
  refine Go.of (fun _ q => XS.aloadN X0.here hx rfl (hb hby d2_1) rfl rfl q) ?_
  show Go _ _ _ _ _ _ _ (s₁.setTop (mkF m 2 #[.val (.ref a), .val (.ref b)] [(.ref b), (.ref a)]))
  refine Go.of (fun _ q => XS.iconst X0.here hx rfl (hb hby d2_2) q) ?_
  show Go _ _ _ _ _ _ _ (s₁.setTop (mkF m 3 #[.val (.ref a), .val (.ref b)] [(.int (0 : Int32)), (.ref b), (.ref a)]))
  refine Go.of (fun _ q => XS.aloadN X0.here hx rfl (hb hby d2_3) rfl rfl q) ?_
  show Go _ _ _ _ _ _ _ (s₁.setTop (mkF m 4 #[.val (.ref a), .val (.ref b)] [(.ref b), (.int (0 : Int32)), (.ref b), (.ref a)]))
  refine Go.of (fun _ q => AF.length A_b X0 hx hZ e0 rfl (g := (mkF m 4 #[.val (.ref a), .val (.ref b)] [(.ref b), (.int (0 : Int32)), (.ref b), (.ref a)])) rfl rfl (hb hby d2_4) q) ?_
  show Go _ _ _ _ _ _ _ (s₁.setTop (mkF m 5 #[.val (.ref a), .val (.ref b)] [(.int (3 : Int32)), (.int (0 : Int32)), (.ref b), (.ref a)]))
  refine Go.of (fun _ q => XS.aconstNull X0.here hx rfl (hb hby d2_5) q) ?_
  show Go _ _ _ _ _ _ _ (s₁.setTop (mkF m 6 #[.val (.ref a), .val (.ref b)] [.null, (.int (3 : Int32)), (.int (0 : Int32)), (.ref b), (.ref a)]))
  refine Go.special X0 hx hZ (y := (⟨"java/lang/String", "<init>", "([CIILjava/lang/Void;)V"⟩ : MethodName)) (a := a) (argsL := [(.ref b), (.int (0 : Int32)), (.int (3 : Int32)), .null]) rfl hown (hw _ (List.mem_of_getElem? (i := 12) rfl)) (hw _ (List.mem_of_getElem? (i := 13) rfl)) (hw _ (List.mem_of_getElem? (i := 7) rfl)) (hw _ (List.mem_of_getElem? (i := 15) rfl)) (by decide) 0 e0 (rm3_s3 l Z a0 hw a b kb gb u1 u2 cs h0 n0 Zs Od E_a F_a_value F_a_coder g_a A_b ne_b_a hg Scs hcs) (by decide) (by decide) (by decide) (by decide) (g := (mkF m 6 #[.val (.ref a), .val (.ref b)] [.null, (.int (3 : Int32)), (.int (0 : Int32)), (.ref b), (.ref a)])) rfl (by rw [hml]; rfl) (rest := []) (lenOf pd10 rfl) rfl (by show 2 * 0 + _ ≤ _; exact Nat.le_of_eq rfl) (hb hby d2_6) ?_
  intro T1 v1 L1 X1 q1
  obtain ⟨d, kd, rfl, Nq1, K1, f1_0, f1_1, f1_2, f1_3, f1_4⟩ := q1
  have N1 := Fr.app N0 Nq1
  have g_d : n0 ≤ d := Nat.le_trans Zs f1_0
  have sz_d : h0.size ≤ d := Nat.le_trans Kp.1 f1_0
  have ne_a_d : a ≠ d := Nat.ne_of_lt (Nat.lt_of_lt_of_le E_a.lt f1_0)
  have ne_b_d : b ≠ d := Nat.ne_of_lt (Nat.lt_of_lt_of_le A_b.lt f1_0)
  have Zs := Nat.le_trans Zs K1.1
  have Kp := Kp.trans K1 (allS (P := fun x => x ∈ [a] ∨ h0.size ≤ x) (Or.inl (List.mem_of_getElem? (i := 0) rfl)) all0)
  have Od := Od.keep K1 (allS (P := fun x => n0 ≤ x) g_a all0)
  have E_a := E_a.keep K1
  have A_b := A_b.keep K1 (ninS ne_b_a nin0)
  have F_a_value := f1_2
  have F_a_coder := f1_3
  have A_d := f1_4
  show Go _ _ _ _ _ _ _ (T1.setTop (mkF m 9 #[.val (.ref a), .val (.ref b)] []))
  refine Go.retV X1 hx hlk hret (hb hby d2_9) (by decide) (by decide) ?_
  exact ⟨d, kd, rfl, N1, Kp, sz_d, E_a, F_a_value, F_a_coder, A_d⟩
theorem d1_49 : decode method_3_code 49 = .ok (.iload_n 0, 1) := by decide +kernel
theorem d1_50 : decode method_3_code 50 = .ok (.iconst 3, 1) := by decide +kernel
theorem d1_51 : decode method_3_code 51 = .ok (.if_icmp .ne 26, 3) := by decide +kernel
theorem d1_54 : decode method_3_code 54 = .ok (.new 7, 3) := by decide +kernel
theorem d1_57 : decode method_3_code 57 = .ok (.dup, 1) := by decide +kernel
theorem d1_58 : decode method_3_code 58 = .ok (.iconst 3, 1) := by decide +kernel
theorem d1_59 : decode method_3_code 59 = .ok (.newarray .char, 2) := by decide +kernel
theorem d1_61 : decode method_3_code 61 = .ok (.dup, 1) := by decide +kernel
theorem d1_62 : decode method_3_code 62 = .ok (.iconst 0, 1) := by decide +kernel
theorem d1_63 : decode method_3_code 63 = .ok (.iload_n 1, 1) := by decide +kernel
theorem d1_64 : decode method_3_code 64 = .ok (.castore, 1) := by decide +kernel
theorem d1_65 : decode method_3_code 65 = .ok (.dup, 1) := by decide +kernel
theorem d1_66 : decode method_3_code 66 = .ok (.iconst 1, 1) := by decide +kernel
theorem d1_67 : decode method_3_code 67 = .ok (.iload_n 2, 1) := by decide +kernel
theorem d1_68 : decode method_3_code 68 = .ok (.castore, 1) := by decide +kernel
theorem d1_69 : decode method_3_code 69 = .ok (.dup, 1) := by decide +kernel
theorem d1_70 : decode method_3_code 70 = .ok (.iconst 2, 1) := by decide +kernel
theorem d1_71 : decode method_3_code 71 = .ok (.iload_n 3, 1) := by decide +kernel
theorem d1_72 : decode method_3_code 72 = .ok (.castore, 1) := by decide +kernel
theorem d1_73 : decode method_3_code 73 = .ok (.invokespecial 9, 3) := by decide +kernel
theorem d1_76 : decode method_3_code 76 = .ok (.areturn, 1) := by decide +kernel
theorem ef_1_3 (m : MethodId) (x1 : Int32) (x2 : Int32) (x3 : Int32) (x4 : Int32) (x5 : Int32) : entryFrame m #[(.int (3 : Int32)), (.int x1), (.int x2), (.int x3), (.int x4), (.int x5)] 6 = mkF m 0 #[.val (.int (3 : Int32)), .val (.int x1), .val (.int x2), .val (.int x3), .val (.int x4), .val (.int x5)] [] := by first | (simp [entryFrame, mkF, argsToLocals, Value.category]; done) | rfl
def Q1_3 (Z : State) (x1 : Int32) (x2 : Int32) (x3 : Int32) (x4 : Int32) (x5 : Int32) (cs : Int32) (h0 : Heap) (n0 : Nat) (v : Option Value) (h : Heap) (L : List Loc) : Prop := ∃ sa : Addr, ∃ d : Addr, ∃ kd : ClassId, v = some (.ref sa) ∧ Fr n0 L ∧ Keep h0 h [] ∧ h0.size ≤ sa ∧ Exa Z h sa "java/lang/String" ∧ Fld Z h sa "java/lang/String" "value" "[B" (.ref d) ∧ Fld Z h sa "java/lang/String" "coder" "B" (.int (0 : Int32)) ∧ AF Z h d kd .byte 3 (fun i => .int ((fun i => own_by (own_p3 x1 x2 x3 i)) i))
set_option maxRecDepth 65536 in
set_option maxHeartbeats 40000000 in
theorem rm1_3 (l : Launch) (Z : State) (a0 : Array Value) (hw : ∀ d ∈ tables_1, d.before a0 Z = true) (x1 : Int32) (x2 : Int32) (x3 : Int32) (x4 : Int32) (x5 : Int32) (cs : Int32) (h0 : Heap) (n0 : Nat) (Zs : n0 ≤ h0.size) (Od : Old Z n0 h0) (hc1 : ¬ (255 : Int32) < (x1.toUInt32.toUInt16.toUInt32.toInt32)) (hc2 : ¬ (255 : Int32) < (x2.toUInt32.toUInt16.toUInt32.toInt32)) (hc3 : ¬ (255 : Int32) < (x3.toUInt32.toUInt16.toUInt32.toInt32)) (Scs : Sta Z Z.heap "java/lang/String" "COMPACT_STRINGS" "Z" (.int cs)) (hcs : ¬ cs = (0 : Int32)) :
    Con l Z (⟨"com/example/ddos_fee_ledger/ddosfeeledger/MoneyIsCurrencyPinLaw", "make", "(ICCCCC)Ljava/lang/String;"⟩ : MethodName) method_3_code 6 (some (.object "java/lang/String")) ({ frames := 4, cells := 3, slots := 10, locals := 66 } : Room) #[(.int (3 : Int32)), (.int x1), (.int x2), (.int x3), (.int x4), (.int x5)] h0 (Q1_3 Z x1 x2 x3 x4 x5 cs h0 n0) := by
  refine Con.intro (plainFor_of_name pn4) (fun m => ef_1_3 m x1 x2 x3 x4 x5) ?_
  intro p e s m below meth c s₁ hx hby hml0 hZ hown hnm hret hlk X0 e0
  have hml : c.maxLocals = 6 := hml0
  have N0 := Fr.nil n0
  have Kp : Keep h0 h0 [] := Keep.refl h0 _
  show Go _ _ _ _ _ _ _ (s₁.setTop (mkF m 0 #[.val (.int (3 : Int32)), .val (.int x1), .val (.int x2), .val (.int x3), .val (.int x4), .val (.int x5)] []))
  refine Go.of (fun _ q => XS.iloadN X0.here hx rfl (hb hby d1_0) rfl q) ?_
  show Go _ _ _ _ _ _ _ (s₁.setTop (mkF m 1 #[.val (.int (3 : Int32)), .val (.int x1), .val (.int x2), .val (.int x3), .val (.int x4), .val (.int x5)] [(.int (3 : Int32))]))
  refine Go.of (fun _ q => XS.ifYes X0.here hx rfl (pc0 := 1) (pc' := 15) rfl (hb hby d1_1) rfl ((if0 _ _).trans (feq (by decide)).2) (by decide) (by decide) q) ?_
  show Go _ _ _ _ _ _ _ (s₁.setTop (mkF m 15 #[.val (.int (3 : Int32)), .val (.int x1), .val (.int x2), .val (.int x3), .val (.int x4), .val (.int x5)] []))
  refine Go.of (fun _ q => XS.iloadN X0.here hx rfl (hb hby d1_15) rfl q) ?_
  show Go _ _ _ _ _ _ _ (s₁.setTop (mkF m 16 #[.val (.int (3 : Int32)), .val (.int x1), .val (.int x2), .val (.int x3), .val (.int x4), .val (.int x5)] [(.int (3 : Int32))]))
  refine Go.of (fun _ q => XS.iconst X0.here hx rfl (hb hby d1_16) q) ?_
  show Go _ _ _ _ _ _ _ (s₁.setTop (mkF m 17 #[.val (.int (3 : Int32)), .val (.int x1), .val (.int x2), .val (.int x3), .val (.int x4), .val (.int x5)] [(.int (1 : Int32)), (.int (3 : Int32))]))
  refine Go.of (fun _ q => XS.icmpYes X0.here hx rfl (pc0 := 17) (pc' := 25) rfl (hb hby d1_17) rfl (feq (by decide)).2 (by decide) (by decide) q) ?_
  show Go _ _ _ _ _ _ _ (s₁.setTop (mkF m 25 #[.val (.int (3 : Int32)), .val (.int x1), .val (.int x2), .val (.int x3), .val (.int x4), .val (.int x5)] []))
  refine Go.of (fun _ q => XS.iloadN X0.here hx rfl (hb hby d1_25) rfl q) ?_
  show Go _ _ _ _ _ _ _ (s₁.setTop (mkF m 26 #[.val (.int (3 : Int32)), .val (.int x1), .val (.int x2), .val (.int x3), .val (.int x4), .val (.int x5)] [(.int (3 : Int32))]))
  refine Go.of (fun _ q => XS.iconst X0.here hx rfl (hb hby d1_26) q) ?_
  show Go _ _ _ _ _ _ _ (s₁.setTop (mkF m 27 #[.val (.int (3 : Int32)), .val (.int x1), .val (.int x2), .val (.int x3), .val (.int x4), .val (.int x5)] [(.int (2 : Int32)), (.int (3 : Int32))]))
  refine Go.of (fun _ q => XS.icmpYes X0.here hx rfl (pc0 := 27) (pc' := 49) rfl (hb hby d1_27) rfl (feq (by decide)).2 (by decide) (by decide) q) ?_
  show Go _ _ _ _ _ _ _ (s₁.setTop (mkF m 49 #[.val (.int (3 : Int32)), .val (.int x1), .val (.int x2), .val (.int x3), .val (.int x4), .val (.int x5)] []))
  refine Go.of (fun _ q => XS.iloadN X0.here hx rfl (hb hby d1_49) rfl q) ?_
  show Go _ _ _ _ _ _ _ (s₁.setTop (mkF m 50 #[.val (.int (3 : Int32)), .val (.int x1), .val (.int x2), .val (.int x3), .val (.int x4), .val (.int x5)] [(.int (3 : Int32))]))
  refine Go.of (fun _ q => XS.iconst X0.here hx rfl (hb hby d1_50) q) ?_
  show Go _ _ _ _ _ _ _ (s₁.setTop (mkF m 51 #[.val (.int (3 : Int32)), .val (.int x1), .val (.int x2), .val (.int x3), .val (.int x4), .val (.int x5)] [(.int (3 : Int32)), (.int (3 : Int32))]))
  refine Go.of (fun _ q => XS.icmpNo X0.here hx rfl (hb hby d1_51) rfl (teq rfl).2 q) ?_
  show Go _ _ _ _ _ _ _ (s₁.setTop (mkF m 54 #[.val (.int (3 : Int32)), .val (.int x1), .val (.int x2), .val (.int x3), .val (.int x4), .val (.int x5)] []))
  obtain ⟨T1, h1, X1, e1, E1, A1, D1, -, st1⟩ := newO X0 hx hZ hown (hw _ (List.mem_of_getElem? (i := 5) rfl)) (hw _ (List.mem_of_getElem? (i := 6) rfl)) (hw _ (List.mem_of_getElem? (i := 7) rfl)) e0 (g := (mkF m 54 #[.val (.int (3 : Int32)), .val (.int x1), .val (.int x2), .val (.int x3), .val (.int x4), .val (.int x5)] [])) rfl (hb hby d1_54) (by decide) (by decide)
  obtain ⟨sa, g1⟩ : ∃ z, z = h0.size := ⟨_, rfl⟩
  rw [← g1] at A1 D1 st1
  refine Go.of st1 ?_
  have g_sa : n0 ≤ sa := Nat.le_trans Zs (Nat.le_of_eq g1.symm)
  have sz_sa : h0.size ≤ sa := Nat.le_trans Kp.1 (Nat.le_of_eq g1.symm)
  have Zs := Nat.le_trans Zs E1.1
  have Kp := Kp.ext E1
  have Od := Od.ext E1
  have E_sa := A1
  have F_sa_coder : Fld Z h1 sa "java/lang/String" "coder" "B" (.int (0 : Int32)) := D1 (Or.inr (hw _ (List.mem_of_getElem? (i := 32) rfl))) (ty := .byte) (by decide)
  have F_sa_value : Fld Z h1 sa "java/lang/String" "value" "[B" .null := D1 (Or.inr (hw _ (List.mem_of_getElem? (i := 34) rfl))) (ty := (.array .byte)) (by decide)
  show Go _ _ _ _ _ _ _ (T1.setTop (mkF m 57 #[.val (.int (3 : Int32)), .val (.int x1), .val (.int x2), .val (.int x3), .val (.int x4), .val (.int x5)] [(.ref sa)]))
  refine Go.of (fun _ q => XS.dup X1.here hx rfl (hb hby d1_57) rfl rfl q) ?_
  show Go _ _ _ _ _ _ _ (T1.setTop (mkF m 58 #[.val (.int (3 : Int32)), .val (.int x1), .val (.int x2), .val (.int x3), .val (.int x4), .val (.int x5)] [(.ref sa), (.ref sa)]))
  refine Go.of (fun _ q => XS.iconst X1.here hx rfl (hb hby d1_58) q) ?_
  show Go _ _ _ _ _ _ _ (T1.setTop (mkF m 59 #[.val (.int (3 : Int32)), .val (.int x1), .val (.int x2), .val (.int x3), .val (.int x4), .val (.int x5)] [(.int (3 : Int32)), (.ref sa), (.ref sa)]))
  obtain ⟨T2, h2, k2, X2, e2, E2, A2, B2, st2⟩ := newPE X1 hx hZ (hw _ (List.mem_of_getElem? (i := 8) rfl)) e1 (g := (mkF m 59 #[.val (.int (3 : Int32)), .val (.int x1), .val (.int x2), .val (.int x3), .val (.int x4), .val (.int x5)] [(.int (3 : Int32)), (.ref sa), (.ref sa)])) rfl (hb hby d1_59) rfl (by decide) (cap := 3) (by decide) (by decide) (by decide) (by decide) (ad := "[C") (by decide)
  obtain ⟨b, g2⟩ : ∃ z, z = h1.size := ⟨_, rfl⟩
  rw [← g2] at A2 B2 st2
  refine Go.of st2 ?_
  have g_b : n0 ≤ b := Nat.le_trans Zs (Nat.le_of_eq g2.symm)
  have sz_b : h0.size ≤ b := Nat.le_trans Kp.1 (Nat.le_of_eq g2.symm)
  have ne_sa_b : sa ≠ b := Nat.ne_of_lt (Nat.lt_of_lt_of_le E_sa.lt (Nat.le_of_eq g2.symm))
  have Zs := Nat.le_trans Zs E2.1
  have Kp := Kp.ext E2
  have Od := Od.ext E2
  have E_sa := E_sa.ext E2
  have F_sa_coder := F_sa_coder.ext E2
  have F_sa_value := F_sa_value.ext E2
  have E_b := B2
  have A_b : AF Z h2 b k2 .char 3 (fun i => .int ((fun _ => (0 : Int32)) i)) := AF.new A2 (by decide) rfl rfl
  show Go _ _ _ _ _ _ _ (T2.setTop (mkF m 61 #[.val (.int (3 : Int32)), .val (.int x1), .val (.int x2), .val (.int x3), .val (.int x4), .val (.int x5)] [(.ref b), (.ref sa), (.ref sa)]))
  refine Go.of (fun _ q => XS.dup X2.here hx rfl (hb hby d1_61) rfl rfl q) ?_
  show Go _ _ _ _ _ _ _ (T2.setTop (mkF m 62 #[.val (.int (3 : Int32)), .val (.int x1), .val (.int x2), .val (.int x3), .val (.int x4), .val (.int x5)] [(.ref b), (.ref b), (.ref sa), (.ref sa)]))
  refine Go.of (fun _ q => XS.iconst X2.here hx rfl (hb hby d1_62) q) ?_
  show Go _ _ _ _ _ _ _ (T2.setTop (mkF m 63 #[.val (.int (3 : Int32)), .val (.int x1), .val (.int x2), .val (.int x3), .val (.int x4), .val (.int x5)] [(.int (0 : Int32)), (.ref b), (.ref b), (.ref sa), (.ref sa)]))
  refine Go.of (fun _ q => XS.iloadN X2.here hx rfl (hb hby d1_63) rfl q) ?_
  show Go _ _ _ _ _ _ _ (T2.setTop (mkF m 64 #[.val (.int (3 : Int32)), .val (.int x1), .val (.int x2), .val (.int x3), .val (.int x4), .val (.int x5)] [(.int x1), (.int (0 : Int32)), (.ref b), (.ref b), (.ref sa), (.ref sa)]))
  obtain ⟨T3, h3, X3, e3, W3, A3', st3⟩ := AF.castore A_b X2 hx hZ e2 (i := 0) ⟨rfl, by decide, by decide⟩ (g := (mkF m 64 #[.val (.int (3 : Int32)), .val (.int x1), .val (.int x2), .val (.int x3), .val (.int x4), .val (.int x5)] [(.int x1), (.int (0 : Int32)), (.ref b), (.ref b), (.ref sa), (.ref sa)])) rfl rfl (hb hby d1_64)
  refine Go.of st3 ?_
  have Zs := Nat.le_trans Zs (Nat.le_of_eq W3.size.symm)
  have Kp := Kp.wr W3 (Or.inr sz_b)
  have Od := Od.wr W3 g_b
  have E_sa := E_sa.wr W3
  have F_sa_coder := F_sa_coder.other W3 (Or.inl ne_sa_b)
  have F_sa_value := F_sa_value.other W3 (Or.inl ne_sa_b)
  have E_b := E_b.wr W3
  have A_b : AF Z h3 b k2 .char 3 (fun i => .int ((upI (fun _ => (0 : Int32)) 0 (x1.toUInt32.toUInt16.toUInt32.toInt32)) i)) := A3'.toI
  have N3 := Fr.snoc X3 N0 g_b
  show Go _ _ _ _ _ _ _ (T3.setTop (mkF m 65 #[.val (.int (3 : Int32)), .val (.int x1), .val (.int x2), .val (.int x3), .val (.int x4), .val (.int x5)] [(.ref b), (.ref sa), (.ref sa)]))
  refine Go.of (fun _ q => XS.dup X3.here hx rfl (hb hby d1_65) rfl rfl q) ?_
  show Go _ _ _ _ _ _ _ (T3.setTop (mkF m 66 #[.val (.int (3 : Int32)), .val (.int x1), .val (.int x2), .val (.int x3), .val (.int x4), .val (.int x5)] [(.ref b), (.ref b), (.ref sa), (.ref sa)]))
  refine Go.of (fun _ q => XS.iconst X3.here hx rfl (hb hby d1_66) q) ?_
  show Go _ _ _ _ _ _ _ (T3.setTop (mkF m 67 #[.val (.int (3 : Int32)), .val (.int x1), .val (.int x2), .val (.int x3), .val (.int x4), .val (.int x5)] [(.int (1 : Int32)), (.ref b), (.ref b), (.ref sa), (.ref sa)]))
  refine Go.of (fun _ q => XS.iloadN X3.here hx rfl (hb hby d1_67) rfl q) ?_
  show Go _ _ _ _ _ _ _ (T3.setTop (mkF m 68 #[.val (.int (3 : Int32)), .val (.int x1), .val (.int x2), .val (.int x3), .val (.int x4), .val (.int x5)] [(.int x2), (.int (1 : Int32)), (.ref b), (.ref b), (.ref sa), (.ref sa)]))
  obtain ⟨T4, h4, X4, e4, W4, A4', st4⟩ := AF.castore A_b X3 hx hZ e3 (i := 1) ⟨rfl, by decide, by decide⟩ (g := (mkF m 68 #[.val (.int (3 : Int32)), .val (.int x1), .val (.int x2), .val (.int x3), .val (.int x4), .val (.int x5)] [(.int x2), (.int (1 : Int32)), (.ref b), (.ref b), (.ref sa), (.ref sa)])) rfl rfl (hb hby d1_68)
  refine Go.of st4 ?_
  have Zs := Nat.le_trans Zs (Nat.le_of_eq W4.size.symm)
  have Kp := Kp.wr W4 (Or.inr sz_b)
  have Od := Od.wr W4 g_b
  have E_sa := E_sa.wr W4
  have F_sa_coder := F_sa_coder.other W4 (Or.inl ne_sa_b)
  have F_sa_value := F_sa_value.other W4 (Or.inl ne_sa_b)
  have E_b := E_b.wr W4
  have A_b : AF Z h4 b k2 .char 3 (fun i => .int ((upI (upI (fun _ => (0 : Int32)) 0 (x1.toUInt32.toUInt16.toUInt32.toInt32)) 1 (x2.toUInt32.toUInt16.toUInt32.toInt32)) i)) := A4'.toI
  have N4 := Fr.snoc X4 N3 g_b
  show Go _ _ _ _ _ _ _ (T4.setTop (mkF m 69 #[.val (.int (3 : Int32)), .val (.int x1), .val (.int x2), .val (.int x3), .val (.int x4), .val (.int x5)] [(.ref b), (.ref sa), (.ref sa)]))
  refine Go.of (fun _ q => XS.dup X4.here hx rfl (hb hby d1_69) rfl rfl q) ?_
  show Go _ _ _ _ _ _ _ (T4.setTop (mkF m 70 #[.val (.int (3 : Int32)), .val (.int x1), .val (.int x2), .val (.int x3), .val (.int x4), .val (.int x5)] [(.ref b), (.ref b), (.ref sa), (.ref sa)]))
  refine Go.of (fun _ q => XS.iconst X4.here hx rfl (hb hby d1_70) q) ?_
  show Go _ _ _ _ _ _ _ (T4.setTop (mkF m 71 #[.val (.int (3 : Int32)), .val (.int x1), .val (.int x2), .val (.int x3), .val (.int x4), .val (.int x5)] [(.int (2 : Int32)), (.ref b), (.ref b), (.ref sa), (.ref sa)]))
  refine Go.of (fun _ q => XS.iloadN X4.here hx rfl (hb hby d1_71) rfl q) ?_
  show Go _ _ _ _ _ _ _ (T4.setTop (mkF m 72 #[.val (.int (3 : Int32)), .val (.int x1), .val (.int x2), .val (.int x3), .val (.int x4), .val (.int x5)] [(.int x3), (.int (2 : Int32)), (.ref b), (.ref b), (.ref sa), (.ref sa)]))
  obtain ⟨T5, h5, X5, e5, W5, A5', st5⟩ := AF.castore A_b X4 hx hZ e4 (i := 2) ⟨rfl, by decide, by decide⟩ (g := (mkF m 72 #[.val (.int (3 : Int32)), .val (.int x1), .val (.int x2), .val (.int x3), .val (.int x4), .val (.int x5)] [(.int x3), (.int (2 : Int32)), (.ref b), (.ref b), (.ref sa), (.ref sa)])) rfl rfl (hb hby d1_72)
  refine Go.of st5 ?_
  have Zs := Nat.le_trans Zs (Nat.le_of_eq W5.size.symm)
  have Kp := Kp.wr W5 (Or.inr sz_b)
  have Od := Od.wr W5 g_b
  have E_sa := E_sa.wr W5
  have F_sa_coder := F_sa_coder.other W5 (Or.inl ne_sa_b)
  have F_sa_value := F_sa_value.other W5 (Or.inl ne_sa_b)
  have E_b := E_b.wr W5
  have A_b : AF Z h5 b k2 .char 3 (fun i => .int ((upI (upI (upI (fun _ => (0 : Int32)) 0 (x1.toUInt32.toUInt16.toUInt32.toInt32)) 1 (x2.toUInt32.toUInt16.toUInt32.toInt32)) 2 (x3.toUInt32.toUInt16.toUInt32.toInt32)) i)) := A5'.toI
  have N5 := Fr.snoc X5 N4 g_b
  show Go _ _ _ _ _ _ _ (T5.setTop (mkF m 73 #[.val (.int (3 : Int32)), .val (.int x1), .val (.int x2), .val (.int x3), .val (.int x4), .val (.int x5)] [(.ref b), (.ref sa), (.ref sa)]))
  refine Go.special X5 hx hZ (y := (⟨"java/lang/String", "<init>", "([C)V"⟩ : MethodName)) (a := sa) (argsL := [(.ref b)]) rfl hown (hw _ (List.mem_of_getElem? (i := 9) rfl)) (hw _ (List.mem_of_getElem? (i := 10) rfl)) (hw _ (List.mem_of_getElem? (i := 7) rfl)) (hw _ (List.mem_of_getElem? (i := 11) rfl)) (by decide) 1 e5 (rm2_s3 l Z a0 hw sa b k2 (upI (upI (upI (fun _ => (0 : Int32)) 0 (x1.toUInt32.toUInt16.toUInt32.toInt32)) 1 (x2.toUInt32.toUInt16.toUInt32.toInt32)) 2 (x3.toUInt32.toUInt16.toUInt32.toInt32)) .null (0 : Int32) cs h5 n0 Zs Od E_sa F_sa_value F_sa_coder g_sa A_b (Ne.symm ne_sa_b) (fun i hi => by rcases (show i = 0 ∨ i = 1 ∨ i = 2 by omega) with rfl | rfl | rfl <;> first | exact hc1 | exact hc2 | exact hc3) Scs hcs) (by decide) (by decide) (by decide) (by decide) (g := (mkF m 73 #[.val (.int (3 : Int32)), .val (.int x1), .val (.int x2), .val (.int x3), .val (.int x4), .val (.int x5)] [(.ref b), (.ref sa), (.ref sa)])) rfl (by rw [hml]; rfl) (rest := [(.ref sa)]) (lenOf pd11 rfl) rfl (by show 2 * 0 + _ ≤ _; exact Nat.le_of_eq rfl) (hb hby d1_73) ?_
  intro T6 v6 L6 X6 q6
  obtain ⟨d, kd0, rfl, Nq6, K6, f6_0, f6_1, f6_2, f6_3, f6_4⟩ := q6
  have N6 := Fr.app N5 Nq6
  have g_d : n0 ≤ d := Nat.le_trans Zs f6_0
  have sz_d : h0.size ≤ d := Nat.le_trans Kp.1 f6_0
  have ne_sa_d : sa ≠ d := Nat.ne_of_lt (Nat.lt_of_lt_of_le E_sa.lt f6_0)
  have ne_b_d : b ≠ d := Nat.ne_of_lt (Nat.lt_of_lt_of_le E_b.lt f6_0)
  have Zs := Nat.le_trans Zs K6.1
  have Kp := Kp.trans K6 (allS (P := fun x => x ∈ [] ∨ h0.size ≤ x) (Or.inr sz_sa) all0)
  have Od := Od.keep K6 (allS (P := fun x => n0 ≤ x) g_sa all0)
  have E_sa := E_sa.keep K6
  have E_b := E_b.keep K6
  have A_b := A_b.keep K6 (ninS (Ne.symm ne_sa_b) nin0)
  have F_sa_value := f6_2
  have F_sa_coder := f6_3
  have A_d := f6_4
  show Go _ _ _ _ _ _ _ (T6.setTop (mkF m 76 #[.val (.int (3 : Int32)), .val (.int x1), .val (.int x2), .val (.int x3), .val (.int x4), .val (.int x5)] [(.ref sa)]))
  refine Go.retA X6 hx hlk hret rfl rfl (hb hby d1_76) (by decide) (by decide) ?_
  exact ⟨sa, d, kd0, rfl, N6, Kp, sz_sa, E_sa, F_sa_value, F_sa_coder, (AF.cast A_d (fun i hi => by rcases (show i = 0 ∨ i = 1 ∨ i = 2 by omega) with rfl | rfl | rfl <;> rfl))⟩
theorem ef_6_s4 (m : MethodId) (b : Addr) (d : Addr) : entryFrame m #[(.ref b), (.int (0 : Int32)), (.ref d), (.int (0 : Int32)), (.int (4 : Int32))] 7 = mkF m 0 #[.val (.ref b), .val (.int (0 : Int32)), .val (.ref d), .val (.int (0 : Int32)), .val (.int (4 : Int32)), .unset, .unset] [] := by first | (simp [entryFrame, mkF, argsToLocals, Value.category]; done) | rfl
def Q6_s4 (Z : State) (b : Addr) (d : Addr) (kb : ClassId) (gb : Nat → Int32) (kd : ClassId) (gd : Nat → Int32) (h0 : Heap) (n0 : Nat) (v : Option Value) (h : Heap) (L : List Loc) : Prop := v = some (.int (4 : Int32)) ∧ Fr n0 L ∧ Keep h0 h [d] ∧ AF Z h d kd .byte 4 (fun i => .int ((fun i => own_by (gb i)) i))
set_option maxRecDepth 65536 in
set_option maxHeartbeats 40000000 in
theorem rm6_s4 (l : Launch) (Z : State) (a0 : Array Value) (hw : ∀ d ∈ tables_1, d.before a0 Z = true) (b : Addr) (d : Addr) (kb : ClassId) (gb : Nat → Int32) (kd : ClassId) (gd : Nat → Int32) (h0 : Heap) (n0 : Nat) (Zs : n0 ≤ h0.size) (A_b : AF Z h0 b kb .char 4 (fun i => .int (gb i))) (A_d : AF Z h0 d kd .byte 4 (fun i => .int (gd i))) (ne_b_d : b ≠ d) (g_d : n0 ≤ d) (hg : ∀ i, i < 4 → ¬ (255 : Int32) < gb i) :
    Con l Z (⟨"java/lang/StringUTF16", "compress", "([CI[BII)I"⟩ : MethodName) jdk_52_method_21_code 7 (some .int) ({ frames := 0, cells := 0, slots := 0, locals := 0 } : Room) #[(.ref b), (.int (0 : Int32)), (.ref d), (.int (0 : Int32)), (.int (4 : Int32))] h0 (Q6_s4 Z b d kb gb kd gd h0 n0) := by
  refine Con.intro (plainFor_of_name pn5) (fun m => ef_6_s4 m b d) ?_
  intro p e s m below meth c s₁ hx hby hml0 hZ hown hnm hret hlk X0 e0
  have hml : c.maxLocals = 7 := hml0
  have N0 := Fr.nil n0
  have Kp : Keep h0 h0 [d] := Keep.refl h0 _
  show Go _ _ _ _ _ _ _ (s₁.setTop (mkF m 0 #[.val (.ref b), .val (.int (0 : Int32)), .val (.ref d), .val (.int (0 : Int32)), .val (.int (4 : Int32)), .unset, .unset] []))
  refine Go.of (fun _ q => XS.iconst X0.here hx rfl (hb hby d6_0) q) ?_
  show Go _ _ _ _ _ _ _ (s₁.setTop (mkF m 1 #[.val (.ref b), .val (.int (0 : Int32)), .val (.ref d), .val (.int (0 : Int32)), .val (.int (4 : Int32)), .unset, .unset] [(.int (0 : Int32))]))
  refine Go.of (fun _ q => XS.istore X0.here hx rfl (hb hby d6_1) rfl (l' := #[.val (.ref b), .val (.int (0 : Int32)), .val (.ref d), .val (.int (0 : Int32)), .val (.int (4 : Int32)), .val (.int (0 : Int32)), .unset]) rfl q) ?_
  show Go _ _ _ _ _ _ _ (s₁.setTop (mkF m 3 #[.val (.ref b), .val (.int (0 : Int32)), .val (.ref d), .val (.int (0 : Int32)), .val (.int (4 : Int32)), .val (.int (0 : Int32)), .unset] []))
  refine Go.of (fun _ q => XS.iload X0.here hx rfl (hb hby d6_3) rfl q) ?_
  show Go _ _ _ _ _ _ _ (s₁.setTop (mkF m 5 #[.val (.ref b), .val (.int (0 : Int32)), .val (.ref d), .val (.int (0 : Int32)), .val (.int (4 : Int32)), .val (.int (0 : Int32)), .unset] [(.int (0 : Int32))]))
  refine Go.of (fun _ q => XS.iload X0.here hx rfl (hb hby d6_5) rfl q) ?_
  show Go _ _ _ _ _ _ _ (s₁.setTop (mkF m 7 #[.val (.ref b), .val (.int (0 : Int32)), .val (.ref d), .val (.int (0 : Int32)), .val (.int (4 : Int32)), .val (.int (0 : Int32)), .unset] [(.int (4 : Int32)), (.int (0 : Int32))]))
  refine Go.of (fun _ q => XS.icmpNo X0.here hx rfl (hb hby d6_7) rfl (tlt (by decide)).2.1 q) ?_
  show Go _ _ _ _ _ _ _ (s₁.setTop (mkF m 10 #[.val (.ref b), .val (.int (0 : Int32)), .val (.ref d), .val (.int (0 : Int32)), .val (.int (4 : Int32)), .val (.int (0 : Int32)), .unset] []))
  refine Go.of (fun _ q => XS.aloadN X0.here hx rfl (hb hby d6_10) rfl rfl q) ?_
  show Go _ _ _ _ _ _ _ (s₁.setTop (mkF m 11 #[.val (.ref b), .val (.int (0 : Int32)), .val (.ref d), .val (.int (0 : Int32)), .val (.int (4 : Int32)), .val (.int (0 : Int32)), .unset] [(.ref b)]))
  refine Go.of (fun _ q => XS.iloadN X0.here hx rfl (hb hby d6_11) rfl q) ?_
  show Go _ _ _ _ _ _ _ (s₁.setTop (mkF m 12 #[.val (.ref b), .val (.int (0 : Int32)), .val (.ref d), .val (.int (0 : Int32)), .val (.int (4 : Int32)), .val (.int (0 : Int32)), .unset] [(.int (0 : Int32)), (.ref b)]))
  refine Go.of (fun _ q => AF.caload A_b X0 hx hZ e0 ⟨rfl, by decide, by decide⟩ (v := (.int (gb 0))) rfl (g := (mkF m 12 #[.val (.ref b), .val (.int (0 : Int32)), .val (.ref d), .val (.int (0 : Int32)), .val (.int (4 : Int32)), .val (.int (0 : Int32)), .unset] [(.int (0 : Int32)), (.ref b)])) rfl rfl (hb hby d6_12) q) ?_
  show Go _ _ _ _ _ _ _ (s₁.setTop (mkF m 13 #[.val (.ref b), .val (.int (0 : Int32)), .val (.ref d), .val (.int (0 : Int32)), .val (.int (4 : Int32)), .val (.int (0 : Int32)), .unset] [(.int (gb 0))]))
  refine Go.of (fun _ q => XS.istore X0.here hx rfl (hb hby d6_13) rfl (l' := #[.val (.ref b), .val (.int (0 : Int32)), .val (.ref d), .val (.int (0 : Int32)), .val (.int (4 : Int32)), .val (.int (0 : Int32)), .val (.int (gb 0))]) rfl q) ?_
  show Go _ _ _ _ _ _ _ (s₁.setTop (mkF m 15 #[.val (.ref b), .val (.int (0 : Int32)), .val (.ref d), .val (.int (0 : Int32)), .val (.int (4 : Int32)), .val (.int (0 : Int32)), .val (.int (gb 0))] []))
  refine Go.of (fun _ q => XS.iload X0.here hx rfl (hb hby d6_15) rfl q) ?_
  show Go _ _ _ _ _ _ _ (s₁.setTop (mkF m 17 #[.val (.ref b), .val (.int (0 : Int32)), .val (.ref d), .val (.int (0 : Int32)), .val (.int (4 : Int32)), .val (.int (0 : Int32)), .val (.int (gb 0))] [(.int (gb 0))]))
  refine Go.of (fun _ q => XS.sipush X0.here hx rfl (hb hby d6_17) q) ?_
  show Go _ _ _ _ _ _ _ (s₁.setTop (mkF m 20 #[.val (.ref b), .val (.int (0 : Int32)), .val (.ref d), .val (.int (0 : Int32)), .val (.int (4 : Int32)), .val (.int (0 : Int32)), .val (.int (gb 0))] [(.int (255 : Int32)), (.int (gb 0))]))
  refine Go.of (fun _ q => XS.icmpYes X0.here hx rfl (pc0 := 20) (pc' := 26) rfl (hb hby d6_20) rfl (flt (hg 0 (by decide))).2.2.2 (by decide) (by decide) q) ?_
  show Go _ _ _ _ _ _ _ (s₁.setTop (mkF m 26 #[.val (.ref b), .val (.int (0 : Int32)), .val (.ref d), .val (.int (0 : Int32)), .val (.int (4 : Int32)), .val (.int (0 : Int32)), .val (.int (gb 0))] []))
  refine Go.of (fun _ q => XS.aloadN X0.here hx rfl (hb hby d6_26) rfl rfl q) ?_
  show Go _ _ _ _ _ _ _ (s₁.setTop (mkF m 27 #[.val (.ref b), .val (.int (0 : Int32)), .val (.ref d), .val (.int (0 : Int32)), .val (.int (4 : Int32)), .val (.int (0 : Int32)), .val (.int (gb 0))] [(.ref d)]))
  refine Go.of (fun _ q => XS.iloadN X0.here hx rfl (hb hby d6_27) rfl q) ?_
  show Go _ _ _ _ _ _ _ (s₁.setTop (mkF m 28 #[.val (.ref b), .val (.int (0 : Int32)), .val (.ref d), .val (.int (0 : Int32)), .val (.int (4 : Int32)), .val (.int (0 : Int32)), .val (.int (gb 0))] [(.int (0 : Int32)), (.ref d)]))
  refine Go.of (fun _ q => XS.iload X0.here hx rfl (hb hby d6_28) rfl q) ?_
  show Go _ _ _ _ _ _ _ (s₁.setTop (mkF m 30 #[.val (.ref b), .val (.int (0 : Int32)), .val (.ref d), .val (.int (0 : Int32)), .val (.int (4 : Int32)), .val (.int (0 : Int32)), .val (.int (gb 0))] [(.int (gb 0)), (.int (0 : Int32)), (.ref d)]))
  refine Go.of (fun _ q => XS.i2b X0.here hx rfl (hb hby d6_30) rfl q) ?_
  show Go _ _ _ _ _ _ _ (s₁.setTop (mkF m 31 #[.val (.ref b), .val (.int (0 : Int32)), .val (.ref d), .val (.int (0 : Int32)), .val (.int (4 : Int32)), .val (.int (0 : Int32)), .val (.int (gb 0))] [(.int ((gb 0).toInt8.toInt32)), (.int (0 : Int32)), (.ref d)]))
  obtain ⟨T1, h1, X1, e1, W1, A1', st1⟩ := AF.bastore A_d X0 hx hZ e0 (i := 0) ⟨rfl, by decide, by decide⟩ (g := (mkF m 31 #[.val (.ref b), .val (.int (0 : Int32)), .val (.ref d), .val (.int (0 : Int32)), .val (.int (4 : Int32)), .val (.int (0 : Int32)), .val (.int (gb 0))] [(.int ((gb 0).toInt8.toInt32)), (.int (0 : Int32)), (.ref d)])) rfl rfl (hb hby d6_31)
  refine Go.of st1 ?_
  have Zs := Nat.le_trans Zs (Nat.le_of_eq W1.size.symm)
  have Kp := Kp.wr W1 (Or.inl (List.mem_of_getElem? (i := 0) rfl))
  have A_b := A_b.other W1 ne_b_d
  have A_d : AF Z h1 d kd .byte 4 (fun i => .int ((upI gd 0 (((gb 0).toInt8.toInt32).toInt8.toInt32)) i)) := A1'.toI
  have N1 := Fr.snoc X1 N0 g_d
  show Go _ _ _ _ _ _ _ (T1.setTop (mkF m 32 #[.val (.ref b), .val (.int (0 : Int32)), .val (.ref d), .val (.int (0 : Int32)), .val (.int (4 : Int32)), .val (.int (0 : Int32)), .val (.int (gb 0))] []))
  refine Go.of (fun _ q => XS.iinc X1.here hx rfl (hb hby d6_32) rfl (l' := #[.val (.ref b), .val (.int (1 : Int32)), .val (.ref d), .val (.int (0 : Int32)), .val (.int (4 : Int32)), .val (.int (0 : Int32)), .val (.int (gb 0))]) rfl q) ?_
  show Go _ _ _ _ _ _ _ (T1.setTop (mkF m 35 #[.val (.ref b), .val (.int (1 : Int32)), .val (.ref d), .val (.int (0 : Int32)), .val (.int (4 : Int32)), .val (.int (0 : Int32)), .val (.int (gb 0))] []))
  refine Go.of (fun _ q => XS.iinc X1.here hx rfl (hb hby d6_35) rfl (l' := #[.val (.ref b), .val (.int (1 : Int32)), .val (.ref d), .val (.int (1 : Int32)), .val (.int (4 : Int32)), .val (.int (0 : Int32)), .val (.int (gb 0))]) rfl q) ?_
  show Go _ _ _ _ _ _ _ (T1.setTop (mkF m 38 #[.val (.ref b), .val (.int (1 : Int32)), .val (.ref d), .val (.int (1 : Int32)), .val (.int (4 : Int32)), .val (.int (0 : Int32)), .val (.int (gb 0))] []))
  refine Go.of (fun _ q => XS.iinc X1.here hx rfl (hb hby d6_38) rfl (l' := #[.val (.ref b), .val (.int (1 : Int32)), .val (.ref d), .val (.int (1 : Int32)), .val (.int (4 : Int32)), .val (.int (1 : Int32)), .val (.int (gb 0))]) rfl q) ?_
  show Go _ _ _ _ _ _ _ (T1.setTop (mkF m 41 #[.val (.ref b), .val (.int (1 : Int32)), .val (.ref d), .val (.int (1 : Int32)), .val (.int (4 : Int32)), .val (.int (1 : Int32)), .val (.int (gb 0))] []))
  refine Go.of (fun _ q => XS.goto X1.here hx rfl (pc0 := 41) (pc' := 3) rfl (hb hby d6_41) (by decide) (by decide) q) ?_
  show Go _ _ _ _ _ _ _ (T1.setTop (mkF m 3 #[.val (.ref b), .val (.int (1 : Int32)), .val (.ref d), .val (.int (1 : Int32)), .val (.int (4 : Int32)), .val (.int (1 : Int32)), .val (.int (gb 0))] []))
  refine Go.of (fun _ q => XS.iload X1.here hx rfl (hb hby d6_3) rfl q) ?_
  show Go _ _ _ _ _ _ _ (T1.setTop (mkF m 5 #[.val (.ref b), .val (.int (1 : Int32)), .val (.ref d), .val (.int (1 : Int32)), .val (.int (4 : Int32)), .val (.int (1 : Int32)), .val (.int (gb 0))] [(.int (1 : Int32))]))
  refine Go.of (fun _ q => XS.iload X1.here hx rfl (hb hby d6_5) rfl q) ?_
  show Go _ _ _ _ _ _ _ (T1.setTop (mkF m 7 #[.val (.ref b), .val (.int (1 : Int32)), .val (.ref d), .val (.int (1 : Int32)), .val (.int (4 : Int32)), .val (.int (1 : Int32)), .val (.int (gb 0))] [(.int (4 : Int32)), (.int (1 : Int32))]))
  refine Go.of (fun _ q => XS.icmpNo X1.here hx rfl (hb hby d6_7) rfl (tlt (by decide)).2.1 q) ?_
  show Go _ _ _ _ _ _ _ (T1.setTop (mkF m 10 #[.val (.ref b), .val (.int (1 : Int32)), .val (.ref d), .val (.int (1 : Int32)), .val (.int (4 : Int32)), .val (.int (1 : Int32)), .val (.int (gb 0))] []))
  refine Go.of (fun _ q => XS.aloadN X1.here hx rfl (hb hby d6_10) rfl rfl q) ?_
  show Go _ _ _ _ _ _ _ (T1.setTop (mkF m 11 #[.val (.ref b), .val (.int (1 : Int32)), .val (.ref d), .val (.int (1 : Int32)), .val (.int (4 : Int32)), .val (.int (1 : Int32)), .val (.int (gb 0))] [(.ref b)]))
  refine Go.of (fun _ q => XS.iloadN X1.here hx rfl (hb hby d6_11) rfl q) ?_
  show Go _ _ _ _ _ _ _ (T1.setTop (mkF m 12 #[.val (.ref b), .val (.int (1 : Int32)), .val (.ref d), .val (.int (1 : Int32)), .val (.int (4 : Int32)), .val (.int (1 : Int32)), .val (.int (gb 0))] [(.int (1 : Int32)), (.ref b)]))
  refine Go.of (fun _ q => AF.caload A_b X1 hx hZ e1 ⟨rfl, by decide, by decide⟩ (v := (.int (gb 1))) rfl (g := (mkF m 12 #[.val (.ref b), .val (.int (1 : Int32)), .val (.ref d), .val (.int (1 : Int32)), .val (.int (4 : Int32)), .val (.int (1 : Int32)), .val (.int (gb 0))] [(.int (1 : Int32)), (.ref b)])) rfl rfl (hb hby d6_12) q) ?_
  show Go _ _ _ _ _ _ _ (T1.setTop (mkF m 13 #[.val (.ref b), .val (.int (1 : Int32)), .val (.ref d), .val (.int (1 : Int32)), .val (.int (4 : Int32)), .val (.int (1 : Int32)), .val (.int (gb 0))] [(.int (gb 1))]))
  refine Go.of (fun _ q => XS.istore X1.here hx rfl (hb hby d6_13) rfl (l' := #[.val (.ref b), .val (.int (1 : Int32)), .val (.ref d), .val (.int (1 : Int32)), .val (.int (4 : Int32)), .val (.int (1 : Int32)), .val (.int (gb 1))]) rfl q) ?_
  show Go _ _ _ _ _ _ _ (T1.setTop (mkF m 15 #[.val (.ref b), .val (.int (1 : Int32)), .val (.ref d), .val (.int (1 : Int32)), .val (.int (4 : Int32)), .val (.int (1 : Int32)), .val (.int (gb 1))] []))
  refine Go.of (fun _ q => XS.iload X1.here hx rfl (hb hby d6_15) rfl q) ?_
  show Go _ _ _ _ _ _ _ (T1.setTop (mkF m 17 #[.val (.ref b), .val (.int (1 : Int32)), .val (.ref d), .val (.int (1 : Int32)), .val (.int (4 : Int32)), .val (.int (1 : Int32)), .val (.int (gb 1))] [(.int (gb 1))]))
  refine Go.of (fun _ q => XS.sipush X1.here hx rfl (hb hby d6_17) q) ?_
  show Go _ _ _ _ _ _ _ (T1.setTop (mkF m 20 #[.val (.ref b), .val (.int (1 : Int32)), .val (.ref d), .val (.int (1 : Int32)), .val (.int (4 : Int32)), .val (.int (1 : Int32)), .val (.int (gb 1))] [(.int (255 : Int32)), (.int (gb 1))]))
  refine Go.of (fun _ q => XS.icmpYes X1.here hx rfl (pc0 := 20) (pc' := 26) rfl (hb hby d6_20) rfl (flt (hg 1 (by decide))).2.2.2 (by decide) (by decide) q) ?_
  show Go _ _ _ _ _ _ _ (T1.setTop (mkF m 26 #[.val (.ref b), .val (.int (1 : Int32)), .val (.ref d), .val (.int (1 : Int32)), .val (.int (4 : Int32)), .val (.int (1 : Int32)), .val (.int (gb 1))] []))
  refine Go.of (fun _ q => XS.aloadN X1.here hx rfl (hb hby d6_26) rfl rfl q) ?_
  show Go _ _ _ _ _ _ _ (T1.setTop (mkF m 27 #[.val (.ref b), .val (.int (1 : Int32)), .val (.ref d), .val (.int (1 : Int32)), .val (.int (4 : Int32)), .val (.int (1 : Int32)), .val (.int (gb 1))] [(.ref d)]))
  refine Go.of (fun _ q => XS.iloadN X1.here hx rfl (hb hby d6_27) rfl q) ?_
  show Go _ _ _ _ _ _ _ (T1.setTop (mkF m 28 #[.val (.ref b), .val (.int (1 : Int32)), .val (.ref d), .val (.int (1 : Int32)), .val (.int (4 : Int32)), .val (.int (1 : Int32)), .val (.int (gb 1))] [(.int (1 : Int32)), (.ref d)]))
  refine Go.of (fun _ q => XS.iload X1.here hx rfl (hb hby d6_28) rfl q) ?_
  show Go _ _ _ _ _ _ _ (T1.setTop (mkF m 30 #[.val (.ref b), .val (.int (1 : Int32)), .val (.ref d), .val (.int (1 : Int32)), .val (.int (4 : Int32)), .val (.int (1 : Int32)), .val (.int (gb 1))] [(.int (gb 1)), (.int (1 : Int32)), (.ref d)]))
  refine Go.of (fun _ q => XS.i2b X1.here hx rfl (hb hby d6_30) rfl q) ?_
  show Go _ _ _ _ _ _ _ (T1.setTop (mkF m 31 #[.val (.ref b), .val (.int (1 : Int32)), .val (.ref d), .val (.int (1 : Int32)), .val (.int (4 : Int32)), .val (.int (1 : Int32)), .val (.int (gb 1))] [(.int ((gb 1).toInt8.toInt32)), (.int (1 : Int32)), (.ref d)]))
  obtain ⟨T2, h2, X2, e2, W2, A2', st2⟩ := AF.bastore A_d X1 hx hZ e1 (i := 1) ⟨rfl, by decide, by decide⟩ (g := (mkF m 31 #[.val (.ref b), .val (.int (1 : Int32)), .val (.ref d), .val (.int (1 : Int32)), .val (.int (4 : Int32)), .val (.int (1 : Int32)), .val (.int (gb 1))] [(.int ((gb 1).toInt8.toInt32)), (.int (1 : Int32)), (.ref d)])) rfl rfl (hb hby d6_31)
  refine Go.of st2 ?_
  have Zs := Nat.le_trans Zs (Nat.le_of_eq W2.size.symm)
  have Kp := Kp.wr W2 (Or.inl (List.mem_of_getElem? (i := 0) rfl))
  have A_b := A_b.other W2 ne_b_d
  have A_d : AF Z h2 d kd .byte 4 (fun i => .int ((upI (upI gd 0 (((gb 0).toInt8.toInt32).toInt8.toInt32)) 1 (((gb 1).toInt8.toInt32).toInt8.toInt32)) i)) := A2'.toI
  have N2 := Fr.snoc X2 N1 g_d
  show Go _ _ _ _ _ _ _ (T2.setTop (mkF m 32 #[.val (.ref b), .val (.int (1 : Int32)), .val (.ref d), .val (.int (1 : Int32)), .val (.int (4 : Int32)), .val (.int (1 : Int32)), .val (.int (gb 1))] []))
  refine Go.of (fun _ q => XS.iinc X2.here hx rfl (hb hby d6_32) rfl (l' := #[.val (.ref b), .val (.int (2 : Int32)), .val (.ref d), .val (.int (1 : Int32)), .val (.int (4 : Int32)), .val (.int (1 : Int32)), .val (.int (gb 1))]) rfl q) ?_
  show Go _ _ _ _ _ _ _ (T2.setTop (mkF m 35 #[.val (.ref b), .val (.int (2 : Int32)), .val (.ref d), .val (.int (1 : Int32)), .val (.int (4 : Int32)), .val (.int (1 : Int32)), .val (.int (gb 1))] []))
  refine Go.of (fun _ q => XS.iinc X2.here hx rfl (hb hby d6_35) rfl (l' := #[.val (.ref b), .val (.int (2 : Int32)), .val (.ref d), .val (.int (2 : Int32)), .val (.int (4 : Int32)), .val (.int (1 : Int32)), .val (.int (gb 1))]) rfl q) ?_
  show Go _ _ _ _ _ _ _ (T2.setTop (mkF m 38 #[.val (.ref b), .val (.int (2 : Int32)), .val (.ref d), .val (.int (2 : Int32)), .val (.int (4 : Int32)), .val (.int (1 : Int32)), .val (.int (gb 1))] []))
  refine Go.of (fun _ q => XS.iinc X2.here hx rfl (hb hby d6_38) rfl (l' := #[.val (.ref b), .val (.int (2 : Int32)), .val (.ref d), .val (.int (2 : Int32)), .val (.int (4 : Int32)), .val (.int (2 : Int32)), .val (.int (gb 1))]) rfl q) ?_
  show Go _ _ _ _ _ _ _ (T2.setTop (mkF m 41 #[.val (.ref b), .val (.int (2 : Int32)), .val (.ref d), .val (.int (2 : Int32)), .val (.int (4 : Int32)), .val (.int (2 : Int32)), .val (.int (gb 1))] []))
  refine Go.of (fun _ q => XS.goto X2.here hx rfl (pc0 := 41) (pc' := 3) rfl (hb hby d6_41) (by decide) (by decide) q) ?_
  show Go _ _ _ _ _ _ _ (T2.setTop (mkF m 3 #[.val (.ref b), .val (.int (2 : Int32)), .val (.ref d), .val (.int (2 : Int32)), .val (.int (4 : Int32)), .val (.int (2 : Int32)), .val (.int (gb 1))] []))
  refine Go.of (fun _ q => XS.iload X2.here hx rfl (hb hby d6_3) rfl q) ?_
  show Go _ _ _ _ _ _ _ (T2.setTop (mkF m 5 #[.val (.ref b), .val (.int (2 : Int32)), .val (.ref d), .val (.int (2 : Int32)), .val (.int (4 : Int32)), .val (.int (2 : Int32)), .val (.int (gb 1))] [(.int (2 : Int32))]))
  refine Go.of (fun _ q => XS.iload X2.here hx rfl (hb hby d6_5) rfl q) ?_
  show Go _ _ _ _ _ _ _ (T2.setTop (mkF m 7 #[.val (.ref b), .val (.int (2 : Int32)), .val (.ref d), .val (.int (2 : Int32)), .val (.int (4 : Int32)), .val (.int (2 : Int32)), .val (.int (gb 1))] [(.int (4 : Int32)), (.int (2 : Int32))]))
  refine Go.of (fun _ q => XS.icmpNo X2.here hx rfl (hb hby d6_7) rfl (tlt (by decide)).2.1 q) ?_
  show Go _ _ _ _ _ _ _ (T2.setTop (mkF m 10 #[.val (.ref b), .val (.int (2 : Int32)), .val (.ref d), .val (.int (2 : Int32)), .val (.int (4 : Int32)), .val (.int (2 : Int32)), .val (.int (gb 1))] []))
  refine Go.of (fun _ q => XS.aloadN X2.here hx rfl (hb hby d6_10) rfl rfl q) ?_
  show Go _ _ _ _ _ _ _ (T2.setTop (mkF m 11 #[.val (.ref b), .val (.int (2 : Int32)), .val (.ref d), .val (.int (2 : Int32)), .val (.int (4 : Int32)), .val (.int (2 : Int32)), .val (.int (gb 1))] [(.ref b)]))
  refine Go.of (fun _ q => XS.iloadN X2.here hx rfl (hb hby d6_11) rfl q) ?_
  show Go _ _ _ _ _ _ _ (T2.setTop (mkF m 12 #[.val (.ref b), .val (.int (2 : Int32)), .val (.ref d), .val (.int (2 : Int32)), .val (.int (4 : Int32)), .val (.int (2 : Int32)), .val (.int (gb 1))] [(.int (2 : Int32)), (.ref b)]))
  refine Go.of (fun _ q => AF.caload A_b X2 hx hZ e2 ⟨rfl, by decide, by decide⟩ (v := (.int (gb 2))) rfl (g := (mkF m 12 #[.val (.ref b), .val (.int (2 : Int32)), .val (.ref d), .val (.int (2 : Int32)), .val (.int (4 : Int32)), .val (.int (2 : Int32)), .val (.int (gb 1))] [(.int (2 : Int32)), (.ref b)])) rfl rfl (hb hby d6_12) q) ?_
  show Go _ _ _ _ _ _ _ (T2.setTop (mkF m 13 #[.val (.ref b), .val (.int (2 : Int32)), .val (.ref d), .val (.int (2 : Int32)), .val (.int (4 : Int32)), .val (.int (2 : Int32)), .val (.int (gb 1))] [(.int (gb 2))]))
  refine Go.of (fun _ q => XS.istore X2.here hx rfl (hb hby d6_13) rfl (l' := #[.val (.ref b), .val (.int (2 : Int32)), .val (.ref d), .val (.int (2 : Int32)), .val (.int (4 : Int32)), .val (.int (2 : Int32)), .val (.int (gb 2))]) rfl q) ?_
  show Go _ _ _ _ _ _ _ (T2.setTop (mkF m 15 #[.val (.ref b), .val (.int (2 : Int32)), .val (.ref d), .val (.int (2 : Int32)), .val (.int (4 : Int32)), .val (.int (2 : Int32)), .val (.int (gb 2))] []))
  refine Go.of (fun _ q => XS.iload X2.here hx rfl (hb hby d6_15) rfl q) ?_
  show Go _ _ _ _ _ _ _ (T2.setTop (mkF m 17 #[.val (.ref b), .val (.int (2 : Int32)), .val (.ref d), .val (.int (2 : Int32)), .val (.int (4 : Int32)), .val (.int (2 : Int32)), .val (.int (gb 2))] [(.int (gb 2))]))
  refine Go.of (fun _ q => XS.sipush X2.here hx rfl (hb hby d6_17) q) ?_
  show Go _ _ _ _ _ _ _ (T2.setTop (mkF m 20 #[.val (.ref b), .val (.int (2 : Int32)), .val (.ref d), .val (.int (2 : Int32)), .val (.int (4 : Int32)), .val (.int (2 : Int32)), .val (.int (gb 2))] [(.int (255 : Int32)), (.int (gb 2))]))
  refine Go.of (fun _ q => XS.icmpYes X2.here hx rfl (pc0 := 20) (pc' := 26) rfl (hb hby d6_20) rfl (flt (hg 2 (by decide))).2.2.2 (by decide) (by decide) q) ?_
  show Go _ _ _ _ _ _ _ (T2.setTop (mkF m 26 #[.val (.ref b), .val (.int (2 : Int32)), .val (.ref d), .val (.int (2 : Int32)), .val (.int (4 : Int32)), .val (.int (2 : Int32)), .val (.int (gb 2))] []))
  refine Go.of (fun _ q => XS.aloadN X2.here hx rfl (hb hby d6_26) rfl rfl q) ?_
  show Go _ _ _ _ _ _ _ (T2.setTop (mkF m 27 #[.val (.ref b), .val (.int (2 : Int32)), .val (.ref d), .val (.int (2 : Int32)), .val (.int (4 : Int32)), .val (.int (2 : Int32)), .val (.int (gb 2))] [(.ref d)]))
  refine Go.of (fun _ q => XS.iloadN X2.here hx rfl (hb hby d6_27) rfl q) ?_
  show Go _ _ _ _ _ _ _ (T2.setTop (mkF m 28 #[.val (.ref b), .val (.int (2 : Int32)), .val (.ref d), .val (.int (2 : Int32)), .val (.int (4 : Int32)), .val (.int (2 : Int32)), .val (.int (gb 2))] [(.int (2 : Int32)), (.ref d)]))
  refine Go.of (fun _ q => XS.iload X2.here hx rfl (hb hby d6_28) rfl q) ?_
  show Go _ _ _ _ _ _ _ (T2.setTop (mkF m 30 #[.val (.ref b), .val (.int (2 : Int32)), .val (.ref d), .val (.int (2 : Int32)), .val (.int (4 : Int32)), .val (.int (2 : Int32)), .val (.int (gb 2))] [(.int (gb 2)), (.int (2 : Int32)), (.ref d)]))
  refine Go.of (fun _ q => XS.i2b X2.here hx rfl (hb hby d6_30) rfl q) ?_
  show Go _ _ _ _ _ _ _ (T2.setTop (mkF m 31 #[.val (.ref b), .val (.int (2 : Int32)), .val (.ref d), .val (.int (2 : Int32)), .val (.int (4 : Int32)), .val (.int (2 : Int32)), .val (.int (gb 2))] [(.int ((gb 2).toInt8.toInt32)), (.int (2 : Int32)), (.ref d)]))
  obtain ⟨T3, h3, X3, e3, W3, A3', st3⟩ := AF.bastore A_d X2 hx hZ e2 (i := 2) ⟨rfl, by decide, by decide⟩ (g := (mkF m 31 #[.val (.ref b), .val (.int (2 : Int32)), .val (.ref d), .val (.int (2 : Int32)), .val (.int (4 : Int32)), .val (.int (2 : Int32)), .val (.int (gb 2))] [(.int ((gb 2).toInt8.toInt32)), (.int (2 : Int32)), (.ref d)])) rfl rfl (hb hby d6_31)
  refine Go.of st3 ?_
  have Zs := Nat.le_trans Zs (Nat.le_of_eq W3.size.symm)
  have Kp := Kp.wr W3 (Or.inl (List.mem_of_getElem? (i := 0) rfl))
  have A_b := A_b.other W3 ne_b_d
  have A_d : AF Z h3 d kd .byte 4 (fun i => .int ((upI (upI (upI gd 0 (((gb 0).toInt8.toInt32).toInt8.toInt32)) 1 (((gb 1).toInt8.toInt32).toInt8.toInt32)) 2 (((gb 2).toInt8.toInt32).toInt8.toInt32)) i)) := A3'.toI
  have N3 := Fr.snoc X3 N2 g_d
  show Go _ _ _ _ _ _ _ (T3.setTop (mkF m 32 #[.val (.ref b), .val (.int (2 : Int32)), .val (.ref d), .val (.int (2 : Int32)), .val (.int (4 : Int32)), .val (.int (2 : Int32)), .val (.int (gb 2))] []))
  refine Go.of (fun _ q => XS.iinc X3.here hx rfl (hb hby d6_32) rfl (l' := #[.val (.ref b), .val (.int (3 : Int32)), .val (.ref d), .val (.int (2 : Int32)), .val (.int (4 : Int32)), .val (.int (2 : Int32)), .val (.int (gb 2))]) rfl q) ?_
  show Go _ _ _ _ _ _ _ (T3.setTop (mkF m 35 #[.val (.ref b), .val (.int (3 : Int32)), .val (.ref d), .val (.int (2 : Int32)), .val (.int (4 : Int32)), .val (.int (2 : Int32)), .val (.int (gb 2))] []))
  refine Go.of (fun _ q => XS.iinc X3.here hx rfl (hb hby d6_35) rfl (l' := #[.val (.ref b), .val (.int (3 : Int32)), .val (.ref d), .val (.int (3 : Int32)), .val (.int (4 : Int32)), .val (.int (2 : Int32)), .val (.int (gb 2))]) rfl q) ?_
  show Go _ _ _ _ _ _ _ (T3.setTop (mkF m 38 #[.val (.ref b), .val (.int (3 : Int32)), .val (.ref d), .val (.int (3 : Int32)), .val (.int (4 : Int32)), .val (.int (2 : Int32)), .val (.int (gb 2))] []))
  refine Go.of (fun _ q => XS.iinc X3.here hx rfl (hb hby d6_38) rfl (l' := #[.val (.ref b), .val (.int (3 : Int32)), .val (.ref d), .val (.int (3 : Int32)), .val (.int (4 : Int32)), .val (.int (3 : Int32)), .val (.int (gb 2))]) rfl q) ?_
  show Go _ _ _ _ _ _ _ (T3.setTop (mkF m 41 #[.val (.ref b), .val (.int (3 : Int32)), .val (.ref d), .val (.int (3 : Int32)), .val (.int (4 : Int32)), .val (.int (3 : Int32)), .val (.int (gb 2))] []))
  refine Go.of (fun _ q => XS.goto X3.here hx rfl (pc0 := 41) (pc' := 3) rfl (hb hby d6_41) (by decide) (by decide) q) ?_
  show Go _ _ _ _ _ _ _ (T3.setTop (mkF m 3 #[.val (.ref b), .val (.int (3 : Int32)), .val (.ref d), .val (.int (3 : Int32)), .val (.int (4 : Int32)), .val (.int (3 : Int32)), .val (.int (gb 2))] []))
  refine Go.of (fun _ q => XS.iload X3.here hx rfl (hb hby d6_3) rfl q) ?_
  show Go _ _ _ _ _ _ _ (T3.setTop (mkF m 5 #[.val (.ref b), .val (.int (3 : Int32)), .val (.ref d), .val (.int (3 : Int32)), .val (.int (4 : Int32)), .val (.int (3 : Int32)), .val (.int (gb 2))] [(.int (3 : Int32))]))
  refine Go.of (fun _ q => XS.iload X3.here hx rfl (hb hby d6_5) rfl q) ?_
  show Go _ _ _ _ _ _ _ (T3.setTop (mkF m 7 #[.val (.ref b), .val (.int (3 : Int32)), .val (.ref d), .val (.int (3 : Int32)), .val (.int (4 : Int32)), .val (.int (3 : Int32)), .val (.int (gb 2))] [(.int (4 : Int32)), (.int (3 : Int32))]))
  refine Go.of (fun _ q => XS.icmpNo X3.here hx rfl (hb hby d6_7) rfl (tlt (by decide)).2.1 q) ?_
  show Go _ _ _ _ _ _ _ (T3.setTop (mkF m 10 #[.val (.ref b), .val (.int (3 : Int32)), .val (.ref d), .val (.int (3 : Int32)), .val (.int (4 : Int32)), .val (.int (3 : Int32)), .val (.int (gb 2))] []))
  refine Go.of (fun _ q => XS.aloadN X3.here hx rfl (hb hby d6_10) rfl rfl q) ?_
  show Go _ _ _ _ _ _ _ (T3.setTop (mkF m 11 #[.val (.ref b), .val (.int (3 : Int32)), .val (.ref d), .val (.int (3 : Int32)), .val (.int (4 : Int32)), .val (.int (3 : Int32)), .val (.int (gb 2))] [(.ref b)]))
  refine Go.of (fun _ q => XS.iloadN X3.here hx rfl (hb hby d6_11) rfl q) ?_
  show Go _ _ _ _ _ _ _ (T3.setTop (mkF m 12 #[.val (.ref b), .val (.int (3 : Int32)), .val (.ref d), .val (.int (3 : Int32)), .val (.int (4 : Int32)), .val (.int (3 : Int32)), .val (.int (gb 2))] [(.int (3 : Int32)), (.ref b)]))
  refine Go.of (fun _ q => AF.caload A_b X3 hx hZ e3 ⟨rfl, by decide, by decide⟩ (v := (.int (gb 3))) rfl (g := (mkF m 12 #[.val (.ref b), .val (.int (3 : Int32)), .val (.ref d), .val (.int (3 : Int32)), .val (.int (4 : Int32)), .val (.int (3 : Int32)), .val (.int (gb 2))] [(.int (3 : Int32)), (.ref b)])) rfl rfl (hb hby d6_12) q) ?_
  show Go _ _ _ _ _ _ _ (T3.setTop (mkF m 13 #[.val (.ref b), .val (.int (3 : Int32)), .val (.ref d), .val (.int (3 : Int32)), .val (.int (4 : Int32)), .val (.int (3 : Int32)), .val (.int (gb 2))] [(.int (gb 3))]))
  refine Go.of (fun _ q => XS.istore X3.here hx rfl (hb hby d6_13) rfl (l' := #[.val (.ref b), .val (.int (3 : Int32)), .val (.ref d), .val (.int (3 : Int32)), .val (.int (4 : Int32)), .val (.int (3 : Int32)), .val (.int (gb 3))]) rfl q) ?_
  show Go _ _ _ _ _ _ _ (T3.setTop (mkF m 15 #[.val (.ref b), .val (.int (3 : Int32)), .val (.ref d), .val (.int (3 : Int32)), .val (.int (4 : Int32)), .val (.int (3 : Int32)), .val (.int (gb 3))] []))
  refine Go.of (fun _ q => XS.iload X3.here hx rfl (hb hby d6_15) rfl q) ?_
  show Go _ _ _ _ _ _ _ (T3.setTop (mkF m 17 #[.val (.ref b), .val (.int (3 : Int32)), .val (.ref d), .val (.int (3 : Int32)), .val (.int (4 : Int32)), .val (.int (3 : Int32)), .val (.int (gb 3))] [(.int (gb 3))]))
  refine Go.of (fun _ q => XS.sipush X3.here hx rfl (hb hby d6_17) q) ?_
  show Go _ _ _ _ _ _ _ (T3.setTop (mkF m 20 #[.val (.ref b), .val (.int (3 : Int32)), .val (.ref d), .val (.int (3 : Int32)), .val (.int (4 : Int32)), .val (.int (3 : Int32)), .val (.int (gb 3))] [(.int (255 : Int32)), (.int (gb 3))]))
  refine Go.of (fun _ q => XS.icmpYes X3.here hx rfl (pc0 := 20) (pc' := 26) rfl (hb hby d6_20) rfl (flt (hg 3 (by decide))).2.2.2 (by decide) (by decide) q) ?_
  show Go _ _ _ _ _ _ _ (T3.setTop (mkF m 26 #[.val (.ref b), .val (.int (3 : Int32)), .val (.ref d), .val (.int (3 : Int32)), .val (.int (4 : Int32)), .val (.int (3 : Int32)), .val (.int (gb 3))] []))
  refine Go.of (fun _ q => XS.aloadN X3.here hx rfl (hb hby d6_26) rfl rfl q) ?_
  show Go _ _ _ _ _ _ _ (T3.setTop (mkF m 27 #[.val (.ref b), .val (.int (3 : Int32)), .val (.ref d), .val (.int (3 : Int32)), .val (.int (4 : Int32)), .val (.int (3 : Int32)), .val (.int (gb 3))] [(.ref d)]))
  refine Go.of (fun _ q => XS.iloadN X3.here hx rfl (hb hby d6_27) rfl q) ?_
  show Go _ _ _ _ _ _ _ (T3.setTop (mkF m 28 #[.val (.ref b), .val (.int (3 : Int32)), .val (.ref d), .val (.int (3 : Int32)), .val (.int (4 : Int32)), .val (.int (3 : Int32)), .val (.int (gb 3))] [(.int (3 : Int32)), (.ref d)]))
  refine Go.of (fun _ q => XS.iload X3.here hx rfl (hb hby d6_28) rfl q) ?_
  show Go _ _ _ _ _ _ _ (T3.setTop (mkF m 30 #[.val (.ref b), .val (.int (3 : Int32)), .val (.ref d), .val (.int (3 : Int32)), .val (.int (4 : Int32)), .val (.int (3 : Int32)), .val (.int (gb 3))] [(.int (gb 3)), (.int (3 : Int32)), (.ref d)]))
  refine Go.of (fun _ q => XS.i2b X3.here hx rfl (hb hby d6_30) rfl q) ?_
  show Go _ _ _ _ _ _ _ (T3.setTop (mkF m 31 #[.val (.ref b), .val (.int (3 : Int32)), .val (.ref d), .val (.int (3 : Int32)), .val (.int (4 : Int32)), .val (.int (3 : Int32)), .val (.int (gb 3))] [(.int ((gb 3).toInt8.toInt32)), (.int (3 : Int32)), (.ref d)]))
  obtain ⟨T4, h4, X4, e4, W4, A4', st4⟩ := AF.bastore A_d X3 hx hZ e3 (i := 3) ⟨rfl, by decide, by decide⟩ (g := (mkF m 31 #[.val (.ref b), .val (.int (3 : Int32)), .val (.ref d), .val (.int (3 : Int32)), .val (.int (4 : Int32)), .val (.int (3 : Int32)), .val (.int (gb 3))] [(.int ((gb 3).toInt8.toInt32)), (.int (3 : Int32)), (.ref d)])) rfl rfl (hb hby d6_31)
  refine Go.of st4 ?_
  have Zs := Nat.le_trans Zs (Nat.le_of_eq W4.size.symm)
  have Kp := Kp.wr W4 (Or.inl (List.mem_of_getElem? (i := 0) rfl))
  have A_b := A_b.other W4 ne_b_d
  have A_d : AF Z h4 d kd .byte 4 (fun i => .int ((upI (upI (upI (upI gd 0 (((gb 0).toInt8.toInt32).toInt8.toInt32)) 1 (((gb 1).toInt8.toInt32).toInt8.toInt32)) 2 (((gb 2).toInt8.toInt32).toInt8.toInt32)) 3 (((gb 3).toInt8.toInt32).toInt8.toInt32)) i)) := A4'.toI
  have N4 := Fr.snoc X4 N3 g_d
  show Go _ _ _ _ _ _ _ (T4.setTop (mkF m 32 #[.val (.ref b), .val (.int (3 : Int32)), .val (.ref d), .val (.int (3 : Int32)), .val (.int (4 : Int32)), .val (.int (3 : Int32)), .val (.int (gb 3))] []))
  refine Go.of (fun _ q => XS.iinc X4.here hx rfl (hb hby d6_32) rfl (l' := #[.val (.ref b), .val (.int (4 : Int32)), .val (.ref d), .val (.int (3 : Int32)), .val (.int (4 : Int32)), .val (.int (3 : Int32)), .val (.int (gb 3))]) rfl q) ?_
  show Go _ _ _ _ _ _ _ (T4.setTop (mkF m 35 #[.val (.ref b), .val (.int (4 : Int32)), .val (.ref d), .val (.int (3 : Int32)), .val (.int (4 : Int32)), .val (.int (3 : Int32)), .val (.int (gb 3))] []))
  refine Go.of (fun _ q => XS.iinc X4.here hx rfl (hb hby d6_35) rfl (l' := #[.val (.ref b), .val (.int (4 : Int32)), .val (.ref d), .val (.int (4 : Int32)), .val (.int (4 : Int32)), .val (.int (3 : Int32)), .val (.int (gb 3))]) rfl q) ?_
  show Go _ _ _ _ _ _ _ (T4.setTop (mkF m 38 #[.val (.ref b), .val (.int (4 : Int32)), .val (.ref d), .val (.int (4 : Int32)), .val (.int (4 : Int32)), .val (.int (3 : Int32)), .val (.int (gb 3))] []))
  refine Go.of (fun _ q => XS.iinc X4.here hx rfl (hb hby d6_38) rfl (l' := #[.val (.ref b), .val (.int (4 : Int32)), .val (.ref d), .val (.int (4 : Int32)), .val (.int (4 : Int32)), .val (.int (4 : Int32)), .val (.int (gb 3))]) rfl q) ?_
  show Go _ _ _ _ _ _ _ (T4.setTop (mkF m 41 #[.val (.ref b), .val (.int (4 : Int32)), .val (.ref d), .val (.int (4 : Int32)), .val (.int (4 : Int32)), .val (.int (4 : Int32)), .val (.int (gb 3))] []))
  refine Go.of (fun _ q => XS.goto X4.here hx rfl (pc0 := 41) (pc' := 3) rfl (hb hby d6_41) (by decide) (by decide) q) ?_
  show Go _ _ _ _ _ _ _ (T4.setTop (mkF m 3 #[.val (.ref b), .val (.int (4 : Int32)), .val (.ref d), .val (.int (4 : Int32)), .val (.int (4 : Int32)), .val (.int (4 : Int32)), .val (.int (gb 3))] []))
  refine Go.of (fun _ q => XS.iload X4.here hx rfl (hb hby d6_3) rfl q) ?_
  show Go _ _ _ _ _ _ _ (T4.setTop (mkF m 5 #[.val (.ref b), .val (.int (4 : Int32)), .val (.ref d), .val (.int (4 : Int32)), .val (.int (4 : Int32)), .val (.int (4 : Int32)), .val (.int (gb 3))] [(.int (4 : Int32))]))
  refine Go.of (fun _ q => XS.iload X4.here hx rfl (hb hby d6_5) rfl q) ?_
  show Go _ _ _ _ _ _ _ (T4.setTop (mkF m 7 #[.val (.ref b), .val (.int (4 : Int32)), .val (.ref d), .val (.int (4 : Int32)), .val (.int (4 : Int32)), .val (.int (4 : Int32)), .val (.int (gb 3))] [(.int (4 : Int32)), (.int (4 : Int32))]))
  refine Go.of (fun _ q => XS.icmpYes X4.here hx rfl (pc0 := 7) (pc' := 44) rfl (hb hby d6_7) rfl (flt (by decide)).2.1 (by decide) (by decide) q) ?_
  show Go _ _ _ _ _ _ _ (T4.setTop (mkF m 44 #[.val (.ref b), .val (.int (4 : Int32)), .val (.ref d), .val (.int (4 : Int32)), .val (.int (4 : Int32)), .val (.int (4 : Int32)), .val (.int (gb 3))] []))
  refine Go.of (fun _ q => XS.iload X4.here hx rfl (hb hby d6_44) rfl q) ?_
  show Go _ _ _ _ _ _ _ (T4.setTop (mkF m 46 #[.val (.ref b), .val (.int (4 : Int32)), .val (.ref d), .val (.int (4 : Int32)), .val (.int (4 : Int32)), .val (.int (4 : Int32)), .val (.int (gb 3))] [(.int (4 : Int32))]))
  refine Go.retI X4 hx hlk hret (hb hby d6_46) (by decide) (by decide) ?_
  rw [e4]
  exact ⟨rfl, N4, Kp, (AF.cast A_d (fun i hi => by rcases (show i = 0 ∨ i = 1 ∨ i = 2 ∨ i = 3 by omega) with rfl | rfl | rfl | rfl <;> simp [upI, own_by]))⟩
theorem ef_5_s4 (m : MethodId) (b : Addr) : entryFrame m #[(.ref b), (.int (0 : Int32)), (.int (4 : Int32))] 6 = mkF m 0 #[.val (.ref b), .val (.int (0 : Int32)), .val (.int (4 : Int32)), .unset, .unset, .unset] [] := by first | (simp [entryFrame, mkF, argsToLocals, Value.category]; done) | rfl
def Q5_s4 (Z : State) (b : Addr) (kb : ClassId) (gb : Nat → Int32) (h0 : Heap) (n0 : Nat) (v : Option Value) (h : Heap) (L : List Loc) : Prop := ∃ d : Addr, ∃ kd : ClassId, v = some (.ref d) ∧ Fr n0 L ∧ Keep h0 h [] ∧ h0.size ≤ d ∧ AF Z h d kd .byte 4 (fun i => .int ((fun i => own_by (gb i)) i))
set_option maxRecDepth 65536 in
set_option maxHeartbeats 40000000 in
theorem rm5_s4 (l : Launch) (Z : State) (a0 : Array Value) (hw : ∀ d ∈ tables_1, d.before a0 Z = true) (b : Addr) (kb : ClassId) (gb : Nat → Int32) (h0 : Heap) (n0 : Nat) (Zs : n0 ≤ h0.size) (A_b : AF Z h0 b kb .char 4 (fun i => .int (gb i))) (hg : ∀ i, i < 4 → ¬ (255 : Int32) < gb i) :
    Con l Z (⟨"java/lang/StringUTF16", "compress", "([CII)[B"⟩ : MethodName) jdk_52_method_16_code 6 (some (.array .byte)) ({ frames := 1, cells := 1, slots := 4, locals := 18 } : Room) #[(.ref b), (.int (0 : Int32)), (.int (4 : Int32))] h0 (Q5_s4 Z b kb gb h0 n0) := by
  refine Con.intro (plainFor_of_name pn5) (fun m => ef_5_s4 m b) ?_
  intro p e s m below meth c s₁ hx hby hml0 hZ hown hnm hret hlk X0 e0
  have hml : c.maxLocals = 6 := hml0
  have N0 := Fr.nil n0
  have Kp : Keep h0 h0 [] := Keep.refl h0 _
  show Go _ _ _ _ _ _ _ (s₁.setTop (mkF m 0 #[.val (.ref b), .val (.int (0 : Int32)), .val (.int (4 : Int32)), .unset, .unset, .unset] []))
  refine Go.of (fun _ q => XS.iloadN X0.here hx rfl (hb hby d5_0) rfl q) ?_
  show Go _ _ _ _ _ _ _ (s₁.setTop (mkF m 1 #[.val (.ref b), .val (.int (0 : Int32)), .val (.int (4 : Int32)), .unset, .unset, .unset] [(.int (4 : Int32))]))
  obtain ⟨T1, h1, k1, X1, e1, E1, A1, B1, st1⟩ := newPE X0 hx hZ (hw _ (List.mem_of_getElem? (i := 24) rfl)) e0 (g := (mkF m 1 #[.val (.ref b), .val (.int (0 : Int32)), .val (.int (4 : Int32)), .unset, .unset, .unset] [(.int (4 : Int32))])) rfl (hb hby d5_1) rfl (by decide) (cap := 4) (by decide) (by decide) (by decide) (by decide) (ad := "[B") (by decide)
  obtain ⟨d, g1⟩ : ∃ z, z = h0.size := ⟨_, rfl⟩
  rw [← g1] at A1 B1 st1
  refine Go.of st1 ?_
  have g_d : n0 ≤ d := Nat.le_trans Zs (Nat.le_of_eq g1.symm)
  have sz_d : h0.size ≤ d := Nat.le_trans Kp.1 (Nat.le_of_eq g1.symm)
  have ne_b_d : b ≠ d := Nat.ne_of_lt (Nat.lt_of_lt_of_le A_b.lt (Nat.le_of_eq g1.symm))
  have Zs := Nat.le_trans Zs E1.1
  have Kp := Kp.ext E1
  have A_b := A_b.ext E1
  have E_d := B1
  have A_d : AF Z h1 d k1 .byte 4 (fun i => .int ((fun _ => (0 : Int32)) i)) := AF.new A1 (by decide) rfl rfl
  show Go _ _ _ _ _ _ _ (T1.setTop (mkF m 3 #[.val (.ref b), .val (.int (0 : Int32)), .val (.int (4 : Int32)), .unset, .unset, .unset] [(.ref d)]))
  refine Go.of (fun _ q => XS.astoreN X1.here hx rfl (hb hby d5_3) rfl rfl (l' := #[.val (.ref b), .val (.int (0 : Int32)), .val (.int (4 : Int32)), .val (.ref d), .unset, .unset]) rfl q) ?_
  show Go _ _ _ _ _ _ _ (T1.setTop (mkF m 4 #[.val (.ref b), .val (.int (0 : Int32)), .val (.int (4 : Int32)), .val (.ref d), .unset, .unset] []))
  refine Go.of (fun _ q => XS.aloadN X1.here hx rfl (hb hby d5_4) rfl rfl q) ?_
  show Go _ _ _ _ _ _ _ (T1.setTop (mkF m 5 #[.val (.ref b), .val (.int (0 : Int32)), .val (.int (4 : Int32)), .val (.ref d), .unset, .unset] [(.ref b)]))
  refine Go.of (fun _ q => XS.iloadN X1.here hx rfl (hb hby d5_5) rfl q) ?_
  show Go _ _ _ _ _ _ _ (T1.setTop (mkF m 6 #[.val (.ref b), .val (.int (0 : Int32)), .val (.int (4 : Int32)), .val (.ref d), .unset, .unset] [(.int (0 : Int32)), (.ref b)]))
  refine Go.of (fun _ q => XS.aloadN X1.here hx rfl (hb hby d5_6) rfl rfl q) ?_
  show Go _ _ _ _ _ _ _ (T1.setTop (mkF m 7 #[.val (.ref b), .val (.int (0 : Int32)), .val (.int (4 : Int32)), .val (.ref d), .unset, .unset] [(.ref d), (.int (0 : Int32)), (.ref b)]))
  refine Go.of (fun _ q => XS.iconst X1.here hx rfl (hb hby d5_7) q) ?_
  show Go _ _ _ _ _ _ _ (T1.setTop (mkF m 8 #[.val (.ref b), .val (.int (0 : Int32)), .val (.int (4 : Int32)), .val (.ref d), .unset, .unset] [(.int (0 : Int32)), (.ref d), (.int (0 : Int32)), (.ref b)]))
  refine Go.of (fun _ q => XS.iloadN X1.here hx rfl (hb hby d5_8) rfl q) ?_
  show Go _ _ _ _ _ _ _ (T1.setTop (mkF m 9 #[.val (.ref b), .val (.int (0 : Int32)), .val (.int (4 : Int32)), .val (.ref d), .unset, .unset] [(.int (4 : Int32)), (.int (0 : Int32)), (.ref d), (.int (0 : Int32)), (.ref b)]))
  refine Go.static X1 hx hZ (y := (⟨"java/lang/StringUTF16", "compress", "([CI[BII)I"⟩ : MethodName)) (argsL := [(.ref b), (.int (0 : Int32)), (.ref d), (.int (0 : Int32)), (.int (4 : Int32))]) hown (hw _ (List.mem_of_getElem? (i := 25) rfl)) (hw _ (List.mem_of_getElem? (i := 26) rfl)) (hw _ (List.mem_of_getElem? (i := 22) rfl)) (hw _ (List.mem_of_getElem? (i := 27) rfl)) (by decide) 0 e1 (rm6_s4 l Z a0 hw b d kb gb k1 (fun _ => (0 : Int32)) h1 n0 Zs A_b A_d ne_b_d g_d hg) (by decide) (by decide) (by decide) (by decide) (g := (mkF m 9 #[.val (.ref b), .val (.int (0 : Int32)), .val (.int (4 : Int32)), .val (.ref d), .unset, .unset] [(.int (4 : Int32)), (.int (0 : Int32)), (.ref d), (.int (0 : Int32)), (.ref b)])) rfl (by rw [hml]; rfl) (rest := []) (lenOf pd13 rfl) rfl (by show 2 * 0 + _ ≤ _; exact Nat.le_of_eq rfl) (hb hby d5_9) ?_
  intro T2 v2 L2 X2 q2
  obtain ⟨rfl, Nq2, K2, f2_0⟩ := q2
  have N2 := Fr.app N0 Nq2
  have Zs := Nat.le_trans Zs K2.1
  have Kp := Kp.trans K2 (allS (P := fun x => x ∈ [] ∨ h0.size ≤ x) (Or.inr sz_d) all0)
  have A_b := A_b.keep K2 (ninS ne_b_d nin0)
  have E_d := E_d.keep K2
  have A_d := f2_0
  show Go _ _ _ _ _ _ _ (T2.setTop (mkF m 12 #[.val (.ref b), .val (.int (0 : Int32)), .val (.int (4 : Int32)), .val (.ref d), .unset, .unset] [(.int (4 : Int32))]))
  refine Go.of (fun _ q => XS.istore X2.here hx rfl (hb hby d5_12) rfl (l' := #[.val (.ref b), .val (.int (0 : Int32)), .val (.int (4 : Int32)), .val (.ref d), .val (.int (4 : Int32)), .unset]) rfl q) ?_
  show Go _ _ _ _ _ _ _ (T2.setTop (mkF m 14 #[.val (.ref b), .val (.int (0 : Int32)), .val (.int (4 : Int32)), .val (.ref d), .val (.int (4 : Int32)), .unset] []))
  refine Go.of (fun _ q => XS.iload X2.here hx rfl (hb hby d5_14) rfl q) ?_
  show Go _ _ _ _ _ _ _ (T2.setTop (mkF m 16 #[.val (.ref b), .val (.int (0 : Int32)), .val (.int (4 : Int32)), .val (.ref d), .val (.int (4 : Int32)), .unset] [(.int (4 : Int32))]))
  refine Go.of (fun _ q => XS.iloadN X2.here hx rfl (hb hby d5_16) rfl q) ?_
  show Go _ _ _ _ _ _ _ (T2.setTop (mkF m 17 #[.val (.ref b), .val (.int (0 : Int32)), .val (.int (4 : Int32)), .val (.ref d), .val (.int (4 : Int32)), .unset] [(.int (4 : Int32)), (.int (4 : Int32))]))
  refine Go.of (fun _ q => XS.icmpYes X2.here hx rfl (pc0 := 17) (pc' := 57) rfl (hb hby d5_17) rfl (teq rfl).1 (by decide) (by decide) q) ?_
  show Go _ _ _ _ _ _ _ (T2.setTop (mkF m 57 #[.val (.ref b), .val (.int (0 : Int32)), .val (.int (4 : Int32)), .val (.ref d), .val (.int (4 : Int32)), .unset] []))
  refine Go.of (fun _ q => XS.aloadN X2.here hx rfl (hb hby d5_57) rfl rfl q) ?_
  show Go _ _ _ _ _ _ _ (T2.setTop (mkF m 58 #[.val (.ref b), .val (.int (0 : Int32)), .val (.int (4 : Int32)), .val (.ref d), .val (.int (4 : Int32)), .unset] [(.ref d)]))
  refine Go.retA X2 hx hlk hret rfl rfl (hb hby d5_58) (by decide) (by decide) ?_
  exact ⟨d, k1, rfl, N2, Kp, sz_d, A_d⟩
theorem ef_7_s4 (m : MethodId) (d : Addr) : entryFrame m #[(.ref d), (.int (4 : Int32))] 2 = mkF m 0 #[.val (.ref d), .val (.int (4 : Int32))] [] := by first | (simp [entryFrame, mkF, argsToLocals, Value.category]; done) | rfl
def Q7_s4 (Z : State) (d : Addr) (kd : ClassId) (gd : Nat → Int32) (h0 : Heap) (n0 : Nat) (v : Option Value) (h : Heap) (L : List Loc) : Prop := v = some (.int (0 : Int32)) ∧ Fr n0 L ∧ h = h0
set_option maxRecDepth 65536 in
set_option maxHeartbeats 40000000 in
theorem rm7_s4 (l : Launch) (Z : State) (a0 : Array Value) (hw : ∀ d ∈ tables_1, d.before a0 Z = true) (d : Addr) (kd : ClassId) (gd : Nat → Int32) (h0 : Heap) (n0 : Nat) (Zs : n0 ≤ h0.size) (A_d : AF Z h0 d kd .byte 4 (fun i => .int (gd i))) :
    Con l Z (⟨"java/lang/StringUTF16", "coderFromArrayLen", "([BI)B"⟩ : MethodName) jdk_52_method_15_code 2 (some .byte) ({ frames := 0, cells := 0, slots := 0, locals := 0 } : Room) #[(.ref d), (.int (4 : Int32))] h0 (Q7_s4 Z d kd gd h0 n0) := by
  refine Con.intro (plainFor_of_name pn5) (fun m => ef_7_s4 m d) ?_
  intro p e s m below meth c s₁ hx hby hml0 hZ hown hnm hret hlk X0 e0
  have hml : c.maxLocals = 2 := hml0
  have N0 := Fr.nil n0
  have Kp : Keep h0 h0 [] := Keep.refl h0 _
  show Go _ _ _ _ _ _ _ (s₁.setTop (mkF m 0 #[.val (.ref d), .val (.int (4 : Int32))] []))
  refine Go.of (fun _ q => XS.iloadN X0.here hx rfl (hb hby d7_0) rfl q) ?_
  show Go _ _ _ _ _ _ _ (s₁.setTop (mkF m 1 #[.val (.ref d), .val (.int (4 : Int32))] [(.int (4 : Int32))]))
  refine Go.of (fun _ q => XS.aloadN X0.here hx rfl (hb hby d7_1) rfl rfl q) ?_
  show Go _ _ _ _ _ _ _ (s₁.setTop (mkF m 2 #[.val (.ref d), .val (.int (4 : Int32))] [(.ref d), (.int (4 : Int32))]))
  refine Go.of (fun _ q => AF.length A_d X0 hx hZ e0 rfl (g := (mkF m 2 #[.val (.ref d), .val (.int (4 : Int32))] [(.ref d), (.int (4 : Int32))])) rfl rfl (hb hby d7_2) q) ?_
  show Go _ _ _ _ _ _ _ (s₁.setTop (mkF m 3 #[.val (.ref d), .val (.int (4 : Int32))] [(.int (4 : Int32)), (.int (4 : Int32))]))
  refine Go.of (fun _ q => XS.isub X0.here hx rfl (hb hby d7_3) rfl q) ?_
  show Go _ _ _ _ _ _ _ (s₁.setTop (mkF m 4 #[.val (.ref d), .val (.int (4 : Int32))] [(.int (0 : Int32))]))
  refine Go.of (fun _ q => XS.bipush X0.here hx rfl (hb hby d7_4) q) ?_
  show Go _ _ _ _ _ _ _ (s₁.setTop (mkF m 6 #[.val (.ref d), .val (.int (4 : Int32))] [(.int (31 : Int32)), (.int (0 : Int32))]))
  refine Go.of (fun _ q => XS.iushr X0.here hx rfl (hb hby d7_6) rfl q) ?_
  show Go _ _ _ _ _ _ _ (s₁.setTop (mkF m 7 #[.val (.ref d), .val (.int (4 : Int32))] [(.int (0 : Int32))]))
  refine Go.of (fun _ q => XS.i2b X0.here hx rfl (hb hby d7_7) rfl q) ?_
  show Go _ _ _ _ _ _ _ (s₁.setTop (mkF m 8 #[.val (.ref d), .val (.int (4 : Int32))] [(.int (0 : Int32))]))
  refine Go.retN X0 hx hlk (t := .byte) hret (by simp) (hb hby d7_8) rfl (by decide) (by decide) ?_
  rw [e0]
  exact ⟨rfl, N0, rfl⟩
theorem ef_3_s4 (m : MethodId) (a : Addr) (b : Addr) : entryFrame m #[(.ref a), (.ref b), (.int (0 : Int32)), (.int (4 : Int32)), .null] 6 = mkF m 0 #[.val (.ref a), .val (.ref b), .val (.int (0 : Int32)), .val (.int (4 : Int32)), .val .null, .unset] [] := by first | (simp [entryFrame, mkF, argsToLocals, Value.category]; done) | rfl
def Q3_s4 (Z : State) (a : Addr) (b : Addr) (kb : ClassId) (gb : Nat → Int32) (u1 : Value) (u2 : Int32) (cs : Int32) (h0 : Heap) (n0 : Nat) (v : Option Value) (h : Heap) (L : List Loc) : Prop := ∃ d : Addr, ∃ kd : ClassId, v = none ∧ Fr n0 L ∧ Keep h0 h [a] ∧ h0.size ≤ d ∧ Exa Z h a "java/lang/String" ∧ Fld Z h a "java/lang/String" "value" "[B" (.ref d) ∧ Fld Z h a "java/lang/String" "coder" "B" (.int (0 : Int32)) ∧ AF Z h d kd .byte 4 (fun i => .int ((fun i => own_by (gb i)) i))
set_option maxRecDepth 65536 in
set_option maxHeartbeats 40000000 in
theorem rm3_s4 (l : Launch) (Z : State) (a0 : Array Value) (hw : ∀ d ∈ tables_1, d.before a0 Z = true) (a : Addr) (b : Addr) (kb : ClassId) (gb : Nat → Int32) (u1 : Value) (u2 : Int32) (cs : Int32) (h0 : Heap) (n0 : Nat) (Zs : n0 ≤ h0.size) (Od : Old Z n0 h0) (E_a : Exa Z h0 a "java/lang/String") (F_a_value : Fld Z h0 a "java/lang/String" "value" "[B" u1) (F_a_coder : Fld Z h0 a "java/lang/String" "coder" "B" (.int u2)) (g_a : n0 ≤ a) (A_b : AF Z h0 b kb .char 4 (fun i => .int (gb i))) (ne_b_a : b ≠ a) (hg : ∀ i, i < 4 → ¬ (255 : Int32) < gb i) (Scs : Sta Z Z.heap "java/lang/String" "COMPACT_STRINGS" "Z" (.int cs)) (hcs : ¬ cs = (0 : Int32)) :
    Con l Z (⟨"java/lang/String", "<init>", "([CIILjava/lang/Void;)V"⟩ : MethodName) jdk_42_method_149_code 6 none ({ frames := 2, cells := 1, slots := 4, locals := 35 } : Room) #[(.ref a), (.ref b), (.int (0 : Int32)), (.int (4 : Int32)), .null] h0 (Q3_s4 Z a b kb gb u1 u2 cs h0 n0) := by
  refine Con.intro (plainFor_of_name pn0) (fun m => ef_3_s4 m a b) ?_
  intro p e s m below meth c s₁ hx hby hml0 hZ hown hnm hret hlk X0 e0
  have hml : c.maxLocals = 6 := hml0
  have N0 := Fr.nil n0
  have Kp : Keep h0 h0 [a] := Keep.refl h0 _
  show Go _ _ _ _ _ _ _ (s₁.setTop (mkF m 0 #[.val (.ref a), .val (.ref b), .val (.int (0 : Int32)), .val (.int (4 : Int32)), .val .null, .unset] []))
  refine Go.of (fun _ q => XS.aloadN X0.here hx rfl (hb hby d3_0) rfl rfl q) ?_
  show Go _ _ _ _ _ _ _ (s₁.setTop (mkF m 1 #[.val (.ref a), .val (.ref b), .val (.int (0 : Int32)), .val (.int (4 : Int32)), .val .null, .unset] [(.ref a)]))
  obtain ⟨T1, X1, e1, st1⟩ := initO X0 hx hZ hown (hw _ (List.mem_of_getElem? (i := 16) rfl)) (hw _ (List.mem_of_getElem? (i := 17) rfl)) (hw _ (List.mem_of_getElem? (i := 18) rfl)) e0 (g := (mkF m 1 #[.val (.ref a), .val (.ref b), .val (.int (0 : Int32)), .val (.int (4 : Int32)), .val .null, .unset] [(.ref a)])) rfl (by rw [hml]; rfl) rfl (hb hby d3_1) (by decide) (W := 0) (by show 2 * 0 + _ ≤ _; exact Nat.le_of_eq rfl) (by decide)
  refine Go.of st1 ?_
  show Go _ _ _ _ _ _ _ (T1.setTop (mkF m 4 #[.val (.ref a), .val (.ref b), .val (.int (0 : Int32)), .val (.int (4 : Int32)), .val .null, .unset] []))
  refine Go.of (fun _ q => XS.iloadN X1.here hx rfl (hb hby d3_4) rfl q) ?_
  show Go _ _ _ _ _ _ _ (T1.setTop (mkF m 5 #[.val (.ref a), .val (.ref b), .val (.int (0 : Int32)), .val (.int (4 : Int32)), .val .null, .unset] [(.int (4 : Int32))]))
  refine Go.of (fun _ q => XS.ifYes X1.here hx rfl (pc0 := 5) (pc' := 27) rfl (hb hby d3_5) rfl ((if0 _ _).trans (feq (by decide)).2) (by decide) (by decide) q) ?_
  show Go _ _ _ _ _ _ _ (T1.setTop (mkF m 27 #[.val (.ref a), .val (.ref b), .val (.int (0 : Int32)), .val (.int (4 : Int32)), .val .null, .unset] []))
  obtain ⟨T2, X2, e2, st2⟩ := getS2 X1 hx hZ hown (host := "") (Or.inl (hw _ (List.mem_of_getElem? (i := 19) rfl))) Via.refl e1 (Sta.ext Od.2 Scs) (g := (mkF m 27 #[.val (.ref a), .val (.ref b), .val (.int (0 : Int32)), .val (.int (4 : Int32)), .val .null, .unset] [])) rfl (hb hby d3_27)
  refine Go.of st2 ?_
  show Go _ _ _ _ _ _ _ (T2.setTop (mkF m 30 #[.val (.ref a), .val (.ref b), .val (.int (0 : Int32)), .val (.int (4 : Int32)), .val .null, .unset] [(.int cs)]))
  refine Go.of (fun _ q => XS.ifNo X2.here hx rfl (hb hby d3_30) rfl ((if0 _ _).trans (feq hcs).1) q) ?_
  show Go _ _ _ _ _ _ _ (T2.setTop (mkF m 33 #[.val (.ref a), .val (.ref b), .val (.int (0 : Int32)), .val (.int (4 : Int32)), .val .null, .unset] []))
  refine Go.of (fun _ q => XS.aloadN X2.here hx rfl (hb hby d3_33) rfl rfl q) ?_
  show Go _ _ _ _ _ _ _ (T2.setTop (mkF m 34 #[.val (.ref a), .val (.ref b), .val (.int (0 : Int32)), .val (.int (4 : Int32)), .val .null, .unset] [(.ref b)]))
  refine Go.of (fun _ q => XS.iloadN X2.here hx rfl (hb hby d3_34) rfl q) ?_
  show Go _ _ _ _ _ _ _ (T2.setTop (mkF m 35 #[.val (.ref a), .val (.ref b), .val (.int (0 : Int32)), .val (.int (4 : Int32)), .val .null, .unset] [(.int (0 : Int32)), (.ref b)]))
  refine Go.of (fun _ q => XS.iloadN X2.here hx rfl (hb hby d3_35) rfl q) ?_
  show Go _ _ _ _ _ _ _ (T2.setTop (mkF m 36 #[.val (.ref a), .val (.ref b), .val (.int (0 : Int32)), .val (.int (4 : Int32)), .val .null, .unset] [(.int (4 : Int32)), (.int (0 : Int32)), (.ref b)]))
  refine Go.static X2 hx hZ (y := (⟨"java/lang/StringUTF16", "compress", "([CII)[B"⟩ : MethodName)) (argsL := [(.ref b), (.int (0 : Int32)), (.int (4 : Int32))]) hown (hw _ (List.mem_of_getElem? (i := 20) rfl)) (hw _ (List.mem_of_getElem? (i := 21) rfl)) (hw _ (List.mem_of_getElem? (i := 22) rfl)) (hw _ (List.mem_of_getElem? (i := 23) rfl)) (by decide) 0 e2 (rm5_s4 l Z a0 hw b kb gb h0 n0 Zs A_b hg) (by decide) (by decide) (by decide) (by decide) (g := (mkF m 36 #[.val (.ref a), .val (.ref b), .val (.int (0 : Int32)), .val (.int (4 : Int32)), .val .null, .unset] [(.int (4 : Int32)), (.int (0 : Int32)), (.ref b)])) rfl (by rw [hml]; rfl) (rest := []) (lenOf pd14 rfl) rfl (by show 2 * 0 + _ ≤ _; exact Nat.le_of_eq rfl) (hb hby d3_36) ?_
  intro T3 v3 L3 X3 q3
  obtain ⟨d, kd, rfl, Nq3, K3, f3_0, f3_1⟩ := q3
  have N3 := Fr.app N0 Nq3
  have g_d : n0 ≤ d := Nat.le_trans Zs f3_0
  have sz_d : h0.size ≤ d := Nat.le_trans Kp.1 f3_0
  have ne_a_d : a ≠ d := Nat.ne_of_lt (Nat.lt_of_lt_of_le E_a.lt f3_0)
  have ne_b_d : b ≠ d := Nat.ne_of_lt (Nat.lt_of_lt_of_le A_b.lt f3_0)
  have Zs := Nat.le_trans Zs K3.1
  have Kp := Kp.trans K3 all0
  have Od := Od.keep K3 all0
  have E_a := E_a.keep K3
  have F_a_value := F_a_value.keep K3 nin0
  have F_a_coder := F_a_coder.keep K3 nin0
  have A_b := A_b.keep K3 nin0
  have A_d := f3_1
  show Go _ _ _ _ _ _ _ (T3.setTop (mkF m 39 #[.val (.ref a), .val (.ref b), .val (.int (0 : Int32)), .val (.int (4 : Int32)), .val .null, .unset] [(.ref d)]))
  refine Go.of (fun _ q => XS.astore X3.here hx rfl (hb hby d3_39) rfl rfl (l' := #[.val (.ref a), .val (.ref b), .val (.int (0 : Int32)), .val (.int (4 : Int32)), .val .null, .val (.ref d)]) rfl q) ?_
  show Go _ _ _ _ _ _ _ (T3.setTop (mkF m 41 #[.val (.ref a), .val (.ref b), .val (.int (0 : Int32)), .val (.int (4 : Int32)), .val .null, .val (.ref d)] []))
  refine Go.of (fun _ q => XS.aloadN X3.here hx rfl (hb hby d3_41) rfl rfl q) ?_
  show Go _ _ _ _ _ _ _ (T3.setTop (mkF m 42 #[.val (.ref a), .val (.ref b), .val (.int (0 : Int32)), .val (.int (4 : Int32)), .val .null, .val (.ref d)] [(.ref a)]))
  refine Go.of (fun _ q => XS.aload X3.here hx rfl (hb hby d3_42) rfl rfl q) ?_
  show Go _ _ _ _ _ _ _ (T3.setTop (mkF m 44 #[.val (.ref a), .val (.ref b), .val (.int (0 : Int32)), .val (.int (4 : Int32)), .val .null, .val (.ref d)] [(.ref d), (.ref a)]))
  refine Go.of (fun _ q => XS.iloadN X3.here hx rfl (hb hby d3_44) rfl q) ?_
  show Go _ _ _ _ _ _ _ (T3.setTop (mkF m 45 #[.val (.ref a), .val (.ref b), .val (.int (0 : Int32)), .val (.int (4 : Int32)), .val .null, .val (.ref d)] [(.int (4 : Int32)), (.ref d), (.ref a)]))
  refine Go.static X3 hx hZ (y := (⟨"java/lang/StringUTF16", "coderFromArrayLen", "([BI)B"⟩ : MethodName)) (argsL := [(.ref d), (.int (4 : Int32))]) hown (hw _ (List.mem_of_getElem? (i := 28) rfl)) (hw _ (List.mem_of_getElem? (i := 29) rfl)) (hw _ (List.mem_of_getElem? (i := 22) rfl)) (hw _ (List.mem_of_getElem? (i := 30) rfl)) (by decide) 1 rfl (rm7_s4 l Z a0 hw d kd (fun i => own_by (gb i)) T3.heap n0 Zs A_d) (by decide) (by decide) (by decide) (by decide) (g := (mkF m 45 #[.val (.ref a), .val (.ref b), .val (.int (0 : Int32)), .val (.int (4 : Int32)), .val .null, .val (.ref d)] [(.int (4 : Int32)), (.ref d), (.ref a)])) rfl (by rw [hml]; rfl) (rest := [(.ref a)]) (lenOf pd15 rfl) rfl (by show 2 * 0 + _ ≤ _; exact Nat.le_of_eq rfl) (hb hby d3_45) ?_
  intro T4 v4 L4 X4 q4
  obtain ⟨rfl, Nq4, e4⟩ := q4
  have N4 := Fr.app N3 Nq4
  show Go _ _ _ _ _ _ _ (T4.setTop (mkF m 48 #[.val (.ref a), .val (.ref b), .val (.int (0 : Int32)), .val (.int (4 : Int32)), .val .null, .val (.ref d)] [(.int (0 : Int32)), (.ref a)]))
  obtain ⟨T5, h5, X5, e5, W5, st5⟩ := putFN X4 hx hZ hown (hw _ (List.mem_of_getElem? (i := 31) rfl)) Via.refl e4 F_a_coder E_a (Or.inr ⟨(hw _ (List.mem_of_getElem? (i := 32) rfl)), rfl, hnm⟩) (hw _ (List.mem_of_getElem? (i := 6) rfl)) (ty := .byte) (v' := .int (0 : Int32)) (by decide) rfl rfl (g := (mkF m 48 #[.val (.ref a), .val (.ref b), .val (.int (0 : Int32)), .val (.int (4 : Int32)), .val .null, .val (.ref d)] [(.int (0 : Int32)), (.ref a)])) rfl rfl (hb hby d3_48)
  refine Go.of st5 ?_
  have Zs := Nat.le_trans Zs (Nat.le_of_eq W5.size.symm)
  have Kp := Kp.wr W5 (Or.inl (List.mem_of_getElem? (i := 0) rfl))
  have Od := Od.wr W5 g_a
  have E_a := E_a.wr W5
  have F_a_value := F_a_value.other W5 (Or.inr (slot_ne (Or.inr (hw _ (List.mem_of_getElem? (i := 34) rfl))) (Or.inr (hw _ (List.mem_of_getElem? (i := 32) rfl))) (by decide) (t := (.array .byte)) (t' := .byte) (by decide) (by decide)))
  have F_a_coder := F_a_coder.same W5
  have A_b := A_b.other W5 ne_b_a
  have A_d := A_d.other W5 (Ne.symm ne_a_d)
  have N5 := Fr.snoc X5 N4 g_a
  show Go _ _ _ _ _ _ _ (T5.setTop (mkF m 51 #[.val (.ref a), .val (.ref b), .val (.int (0 : Int32)), .val (.int (4 : Int32)), .val .null, .val (.ref d)] []))
  refine Go.of (fun _ q => XS.aloadN X5.here hx rfl (hb hby d3_51) rfl rfl q) ?_
  show Go _ _ _ _ _ _ _ (T5.setTop (mkF m 52 #[.val (.ref a), .val (.ref b), .val (.int (0 : Int32)), .val (.int (4 : Int32)), .val .null, .val (.ref d)] [(.ref a)]))
  refine Go.of (fun _ q => XS.aload X5.here hx rfl (hb hby d3_52) rfl rfl q) ?_
  show Go _ _ _ _ _ _ _ (T5.setTop (mkF m 54 #[.val (.ref a), .val (.ref b), .val (.int (0 : Int32)), .val (.int (4 : Int32)), .val .null, .val (.ref d)] [(.ref d), (.ref a)]))
  obtain ⟨T6, h6, X6, e6, W6, st6⟩ := putF X5 hx hZ hown (host := "") (Or.inl (hw _ (List.mem_of_getElem? (i := 33) rfl))) Via.refl e5 F_a_value E_a (Or.inr ⟨(hw _ (List.mem_of_getElem? (i := 34) rfl)), rfl, hnm⟩) (hw _ (List.mem_of_getElem? (i := 6) rfl)) (ty := (.array .byte)) (by decide) rfl rfl (g := (mkF m 54 #[.val (.ref a), .val (.ref b), .val (.int (0 : Int32)), .val (.int (4 : Int32)), .val .null, .val (.ref d)] [(.ref d), (.ref a)])) rfl rfl (hb hby d3_54)
  refine Go.of st6 ?_
  have Zs := Nat.le_trans Zs (Nat.le_of_eq W6.size.symm)
  have Kp := Kp.wr W6 (Or.inl (List.mem_of_getElem? (i := 0) rfl))
  have Od := Od.wr W6 g_a
  have E_a := E_a.wr W6
  have F_a_value := F_a_value.same W6
  have F_a_coder := F_a_coder.other W6 (Or.inr (slot_ne (Or.inr (hw _ (List.mem_of_getElem? (i := 32) rfl))) (Or.inr (hw _ (List.mem_of_getElem? (i := 34) rfl))) (by decide) (t := .byte) (t' := (.array .byte)) (by decide) (by decide)))
  have A_b := A_b.other W6 ne_b_a
  have A_d := A_d.other W6 (Ne.symm ne_a_d)
  have N6 := Fr.snoc X6 N5 g_a
  show Go _ _ _ _ _ _ _ (T6.setTop (mkF m 57 #[.val (.ref a), .val (.ref b), .val (.int (0 : Int32)), .val (.int (4 : Int32)), .val .null, .val (.ref d)] []))
  refine Go.retV X6 hx hlk hret (hb hby d3_57) (by decide) (by decide) ?_
  rw [e6]
  exact ⟨d, kd, rfl, N6, Kp, sz_d, E_a, F_a_value, F_a_coder, A_d⟩
theorem ef_2_s4 (m : MethodId) (a : Addr) (b : Addr) : entryFrame m #[(.ref a), (.ref b)] 2 = mkF m 0 #[.val (.ref a), .val (.ref b)] [] := by first | (simp [entryFrame, mkF, argsToLocals, Value.category]; done) | rfl
def Q2_s4 (Z : State) (a : Addr) (b : Addr) (kb : ClassId) (gb : Nat → Int32) (u1 : Value) (u2 : Int32) (cs : Int32) (h0 : Heap) (n0 : Nat) (v : Option Value) (h : Heap) (L : List Loc) : Prop := ∃ d : Addr, ∃ kd : ClassId, v = none ∧ Fr n0 L ∧ Keep h0 h [a] ∧ h0.size ≤ d ∧ Exa Z h a "java/lang/String" ∧ Fld Z h a "java/lang/String" "value" "[B" (.ref d) ∧ Fld Z h a "java/lang/String" "coder" "B" (.int (0 : Int32)) ∧ AF Z h d kd .byte 4 (fun i => .int ((fun i => own_by (gb i)) i))
set_option maxRecDepth 65536 in
set_option maxHeartbeats 40000000 in
theorem rm2_s4 (l : Launch) (Z : State) (a0 : Array Value) (hw : ∀ d ∈ tables_1, d.before a0 Z = true) (a : Addr) (b : Addr) (kb : ClassId) (gb : Nat → Int32) (u1 : Value) (u2 : Int32) (cs : Int32) (h0 : Heap) (n0 : Nat) (Zs : n0 ≤ h0.size) (Od : Old Z n0 h0) (E_a : Exa Z h0 a "java/lang/String") (F_a_value : Fld Z h0 a "java/lang/String" "value" "[B" u1) (F_a_coder : Fld Z h0 a "java/lang/String" "coder" "B" (.int u2)) (g_a : n0 ≤ a) (A_b : AF Z h0 b kb .char 4 (fun i => .int (gb i))) (ne_b_a : b ≠ a) (hg : ∀ i, i < 4 → ¬ (255 : Int32) < gb i) (Scs : Sta Z Z.heap "java/lang/String" "COMPACT_STRINGS" "Z" (.int cs)) (hcs : ¬ cs = (0 : Int32)) :
    Con l Z (⟨"java/lang/String", "<init>", "([C)V"⟩ : MethodName) jdk_42_method_3_code 2 none ({ frames := 3, cells := 1, slots := 4, locals := 52 } : Room) #[(.ref a), (.ref b)] h0 (Q2_s4 Z a b kb gb u1 u2 cs h0 n0) := by
  refine Con.intro (plainFor_of_name pn0) (fun m => ef_2_s4 m a b) ?_
  intro p e s m below meth c s₁ hx hby hml0 hZ hown hnm hret hlk X0 e0
  have hml : c.maxLocals = 2 := hml0
  have N0 := Fr.nil n0
  have Kp : Keep h0 h0 [a] := Keep.refl h0 _
  show Go _ _ _ _ _ _ _ (s₁.setTop (mkF m 0 #[.val (.ref a), .val (.ref b)] []))
  refine Go.of (fun _ q => XS.aloadN X0.here hx rfl (hb hby d2_0) rfl rfl q) ?_
  show Go _ _ _ _ _ _ _ (s₁.setTop (mkF m 1 #[.val (.ref a), .val (.ref b)] [(.ref a)]))
  refine Go.of (fun _ q => XS.aloadN X0.here hx rfl (hb hby d2_1) rfl rfl q) ?_
  show Go _ _ _ _ _ _ _ (s₁.setTop (mkF m 2 #[.val (.ref a), .val (.ref b)] [(.ref b), (.ref a)]))
  refine Go.of (fun _ q => XS.iconst X0.here hx rfl (hb hby d2_2) q) ?_
  show Go _ _ _ _ _ _ _ (s₁.setTop (mkF m 3 #[.val (.ref a), .val (.ref b)] [(.int (0 : Int32)), (.ref b), (.ref a)]))
  refine Go.of (fun _ q => XS.aloadN X0.here hx rfl (hb hby d2_3) rfl rfl q) ?_
  show Go _ _ _ _ _ _ _ (s₁.setTop (mkF m 4 #[.val (.ref a), .val (.ref b)] [(.ref b), (.int (0 : Int32)), (.ref b), (.ref a)]))
  refine Go.of (fun _ q => AF.length A_b X0 hx hZ e0 rfl (g := (mkF m 4 #[.val (.ref a), .val (.ref b)] [(.ref b), (.int (0 : Int32)), (.ref b), (.ref a)])) rfl rfl (hb hby d2_4) q) ?_
  show Go _ _ _ _ _ _ _ (s₁.setTop (mkF m 5 #[.val (.ref a), .val (.ref b)] [(.int (4 : Int32)), (.int (0 : Int32)), (.ref b), (.ref a)]))
  refine Go.of (fun _ q => XS.aconstNull X0.here hx rfl (hb hby d2_5) q) ?_
  show Go _ _ _ _ _ _ _ (s₁.setTop (mkF m 6 #[.val (.ref a), .val (.ref b)] [.null, (.int (4 : Int32)), (.int (0 : Int32)), (.ref b), (.ref a)]))
  refine Go.special X0 hx hZ (y := (⟨"java/lang/String", "<init>", "([CIILjava/lang/Void;)V"⟩ : MethodName)) (a := a) (argsL := [(.ref b), (.int (0 : Int32)), (.int (4 : Int32)), .null]) rfl hown (hw _ (List.mem_of_getElem? (i := 12) rfl)) (hw _ (List.mem_of_getElem? (i := 13) rfl)) (hw _ (List.mem_of_getElem? (i := 7) rfl)) (hw _ (List.mem_of_getElem? (i := 15) rfl)) (by decide) 0 e0 (rm3_s4 l Z a0 hw a b kb gb u1 u2 cs h0 n0 Zs Od E_a F_a_value F_a_coder g_a A_b ne_b_a hg Scs hcs) (by decide) (by decide) (by decide) (by decide) (g := (mkF m 6 #[.val (.ref a), .val (.ref b)] [.null, (.int (4 : Int32)), (.int (0 : Int32)), (.ref b), (.ref a)])) rfl (by rw [hml]; rfl) (rest := []) (lenOf pd10 rfl) rfl (by show 2 * 0 + _ ≤ _; exact Nat.le_of_eq rfl) (hb hby d2_6) ?_
  intro T1 v1 L1 X1 q1
  obtain ⟨d, kd, rfl, Nq1, K1, f1_0, f1_1, f1_2, f1_3, f1_4⟩ := q1
  have N1 := Fr.app N0 Nq1
  have g_d : n0 ≤ d := Nat.le_trans Zs f1_0
  have sz_d : h0.size ≤ d := Nat.le_trans Kp.1 f1_0
  have ne_a_d : a ≠ d := Nat.ne_of_lt (Nat.lt_of_lt_of_le E_a.lt f1_0)
  have ne_b_d : b ≠ d := Nat.ne_of_lt (Nat.lt_of_lt_of_le A_b.lt f1_0)
  have Zs := Nat.le_trans Zs K1.1
  have Kp := Kp.trans K1 (allS (P := fun x => x ∈ [a] ∨ h0.size ≤ x) (Or.inl (List.mem_of_getElem? (i := 0) rfl)) all0)
  have Od := Od.keep K1 (allS (P := fun x => n0 ≤ x) g_a all0)
  have E_a := E_a.keep K1
  have A_b := A_b.keep K1 (ninS ne_b_a nin0)
  have F_a_value := f1_2
  have F_a_coder := f1_3
  have A_d := f1_4
  show Go _ _ _ _ _ _ _ (T1.setTop (mkF m 9 #[.val (.ref a), .val (.ref b)] []))
  refine Go.retV X1 hx hlk hret (hb hby d2_9) (by decide) (by decide) ?_
  exact ⟨d, kd, rfl, N1, Kp, sz_d, E_a, F_a_value, F_a_coder, A_d⟩
theorem d1_77 : decode method_3_code 77 = .ok (.iload_n 0, 1) := by decide +kernel
theorem d1_78 : decode method_3_code 78 = .ok (.iconst 4, 1) := by decide +kernel
theorem d1_79 : decode method_3_code 79 = .ok (.if_icmp .ne 31, 3) := by decide +kernel
theorem d1_82 : decode method_3_code 82 = .ok (.new 7, 3) := by decide +kernel
theorem d1_85 : decode method_3_code 85 = .ok (.dup, 1) := by decide +kernel
theorem d1_86 : decode method_3_code 86 = .ok (.iconst 4, 1) := by decide +kernel
theorem d1_87 : decode method_3_code 87 = .ok (.newarray .char, 2) := by decide +kernel
theorem d1_89 : decode method_3_code 89 = .ok (.dup, 1) := by decide +kernel
theorem d1_90 : decode method_3_code 90 = .ok (.iconst 0, 1) := by decide +kernel
theorem d1_91 : decode method_3_code 91 = .ok (.iload_n 1, 1) := by decide +kernel
theorem d1_92 : decode method_3_code 92 = .ok (.castore, 1) := by decide +kernel
theorem d1_93 : decode method_3_code 93 = .ok (.dup, 1) := by decide +kernel
theorem d1_94 : decode method_3_code 94 = .ok (.iconst 1, 1) := by decide +kernel
theorem d1_95 : decode method_3_code 95 = .ok (.iload_n 2, 1) := by decide +kernel
theorem d1_96 : decode method_3_code 96 = .ok (.castore, 1) := by decide +kernel
theorem d1_97 : decode method_3_code 97 = .ok (.dup, 1) := by decide +kernel
theorem d1_98 : decode method_3_code 98 = .ok (.iconst 2, 1) := by decide +kernel
theorem d1_99 : decode method_3_code 99 = .ok (.iload_n 3, 1) := by decide +kernel
theorem d1_100 : decode method_3_code 100 = .ok (.castore, 1) := by decide +kernel
theorem d1_101 : decode method_3_code 101 = .ok (.dup, 1) := by decide +kernel
theorem d1_102 : decode method_3_code 102 = .ok (.iconst 3, 1) := by decide +kernel
theorem d1_103 : decode method_3_code 103 = .ok (.iload 4, 2) := by decide +kernel
theorem d1_105 : decode method_3_code 105 = .ok (.castore, 1) := by decide +kernel
theorem d1_106 : decode method_3_code 106 = .ok (.invokespecial 9, 3) := by decide +kernel
theorem d1_109 : decode method_3_code 109 = .ok (.areturn, 1) := by decide +kernel
theorem ef_1_4 (m : MethodId) (x1 : Int32) (x2 : Int32) (x3 : Int32) (x4 : Int32) (x5 : Int32) : entryFrame m #[(.int (4 : Int32)), (.int x1), (.int x2), (.int x3), (.int x4), (.int x5)] 6 = mkF m 0 #[.val (.int (4 : Int32)), .val (.int x1), .val (.int x2), .val (.int x3), .val (.int x4), .val (.int x5)] [] := by first | (simp [entryFrame, mkF, argsToLocals, Value.category]; done) | rfl
def Q1_4 (Z : State) (x1 : Int32) (x2 : Int32) (x3 : Int32) (x4 : Int32) (x5 : Int32) (cs : Int32) (h0 : Heap) (n0 : Nat) (v : Option Value) (h : Heap) (L : List Loc) : Prop := ∃ sa : Addr, ∃ d : Addr, ∃ kd : ClassId, ∃ gd : Nat → Int32, v = some (.ref sa) ∧ Fr n0 L ∧ Keep h0 h [] ∧ h0.size ≤ sa ∧ Exa Z h sa "java/lang/String" ∧ Fld Z h sa "java/lang/String" "value" "[B" (.ref d) ∧ Fld Z h sa "java/lang/String" "coder" "B" (.int (0 : Int32)) ∧ AF Z h d kd .byte 4 (fun i => .int (gd i))
set_option maxRecDepth 65536 in
set_option maxHeartbeats 40000000 in
theorem rm1_4 (l : Launch) (Z : State) (a0 : Array Value) (hw : ∀ d ∈ tables_1, d.before a0 Z = true) (x1 : Int32) (x2 : Int32) (x3 : Int32) (x4 : Int32) (x5 : Int32) (cs : Int32) (h0 : Heap) (n0 : Nat) (Zs : n0 ≤ h0.size) (Od : Old Z n0 h0) (hc1 : ¬ (255 : Int32) < (x1.toUInt32.toUInt16.toUInt32.toInt32)) (hc2 : ¬ (255 : Int32) < (x2.toUInt32.toUInt16.toUInt32.toInt32)) (hc3 : ¬ (255 : Int32) < (x3.toUInt32.toUInt16.toUInt32.toInt32)) (hc4 : ¬ (255 : Int32) < (x4.toUInt32.toUInt16.toUInt32.toInt32)) (Scs : Sta Z Z.heap "java/lang/String" "COMPACT_STRINGS" "Z" (.int cs)) (hcs : ¬ cs = (0 : Int32)) :
    Con l Z (⟨"com/example/ddos_fee_ledger/ddosfeeledger/MoneyIsCurrencyPinLaw", "make", "(ICCCCC)Ljava/lang/String;"⟩ : MethodName) method_3_code 6 (some (.object "java/lang/String")) ({ frames := 4, cells := 3, slots := 12, locals := 66 } : Room) #[(.int (4 : Int32)), (.int x1), (.int x2), (.int x3), (.int x4), (.int x5)] h0 (Q1_4 Z x1 x2 x3 x4 x5 cs h0 n0) := by
  refine Con.intro (plainFor_of_name pn4) (fun m => ef_1_4 m x1 x2 x3 x4 x5) ?_
  intro p e s m below meth c s₁ hx hby hml0 hZ hown hnm hret hlk X0 e0
  have hml : c.maxLocals = 6 := hml0
  have N0 := Fr.nil n0
  have Kp : Keep h0 h0 [] := Keep.refl h0 _
  show Go _ _ _ _ _ _ _ (s₁.setTop (mkF m 0 #[.val (.int (4 : Int32)), .val (.int x1), .val (.int x2), .val (.int x3), .val (.int x4), .val (.int x5)] []))
  refine Go.of (fun _ q => XS.iloadN X0.here hx rfl (hb hby d1_0) rfl q) ?_
  show Go _ _ _ _ _ _ _ (s₁.setTop (mkF m 1 #[.val (.int (4 : Int32)), .val (.int x1), .val (.int x2), .val (.int x3), .val (.int x4), .val (.int x5)] [(.int (4 : Int32))]))
  refine Go.of (fun _ q => XS.ifYes X0.here hx rfl (pc0 := 1) (pc' := 15) rfl (hb hby d1_1) rfl ((if0 _ _).trans (feq (by decide)).2) (by decide) (by decide) q) ?_
  show Go _ _ _ _ _ _ _ (s₁.setTop (mkF m 15 #[.val (.int (4 : Int32)), .val (.int x1), .val (.int x2), .val (.int x3), .val (.int x4), .val (.int x5)] []))
  refine Go.of (fun _ q => XS.iloadN X0.here hx rfl (hb hby d1_15) rfl q) ?_
  show Go _ _ _ _ _ _ _ (s₁.setTop (mkF m 16 #[.val (.int (4 : Int32)), .val (.int x1), .val (.int x2), .val (.int x3), .val (.int x4), .val (.int x5)] [(.int (4 : Int32))]))
  refine Go.of (fun _ q => XS.iconst X0.here hx rfl (hb hby d1_16) q) ?_
  show Go _ _ _ _ _ _ _ (s₁.setTop (mkF m 17 #[.val (.int (4 : Int32)), .val (.int x1), .val (.int x2), .val (.int x3), .val (.int x4), .val (.int x5)] [(.int (1 : Int32)), (.int (4 : Int32))]))
  refine Go.of (fun _ q => XS.icmpYes X0.here hx rfl (pc0 := 17) (pc' := 25) rfl (hb hby d1_17) rfl (feq (by decide)).2 (by decide) (by decide) q) ?_
  show Go _ _ _ _ _ _ _ (s₁.setTop (mkF m 25 #[.val (.int (4 : Int32)), .val (.int x1), .val (.int x2), .val (.int x3), .val (.int x4), .val (.int x5)] []))
  refine Go.of (fun _ q => XS.iloadN X0.here hx rfl (hb hby d1_25) rfl q) ?_
  show Go _ _ _ _ _ _ _ (s₁.setTop (mkF m 26 #[.val (.int (4 : Int32)), .val (.int x1), .val (.int x2), .val (.int x3), .val (.int x4), .val (.int x5)] [(.int (4 : Int32))]))
  refine Go.of (fun _ q => XS.iconst X0.here hx rfl (hb hby d1_26) q) ?_
  show Go _ _ _ _ _ _ _ (s₁.setTop (mkF m 27 #[.val (.int (4 : Int32)), .val (.int x1), .val (.int x2), .val (.int x3), .val (.int x4), .val (.int x5)] [(.int (2 : Int32)), (.int (4 : Int32))]))
  refine Go.of (fun _ q => XS.icmpYes X0.here hx rfl (pc0 := 27) (pc' := 49) rfl (hb hby d1_27) rfl (feq (by decide)).2 (by decide) (by decide) q) ?_
  show Go _ _ _ _ _ _ _ (s₁.setTop (mkF m 49 #[.val (.int (4 : Int32)), .val (.int x1), .val (.int x2), .val (.int x3), .val (.int x4), .val (.int x5)] []))
  refine Go.of (fun _ q => XS.iloadN X0.here hx rfl (hb hby d1_49) rfl q) ?_
  show Go _ _ _ _ _ _ _ (s₁.setTop (mkF m 50 #[.val (.int (4 : Int32)), .val (.int x1), .val (.int x2), .val (.int x3), .val (.int x4), .val (.int x5)] [(.int (4 : Int32))]))
  refine Go.of (fun _ q => XS.iconst X0.here hx rfl (hb hby d1_50) q) ?_
  show Go _ _ _ _ _ _ _ (s₁.setTop (mkF m 51 #[.val (.int (4 : Int32)), .val (.int x1), .val (.int x2), .val (.int x3), .val (.int x4), .val (.int x5)] [(.int (3 : Int32)), (.int (4 : Int32))]))
  refine Go.of (fun _ q => XS.icmpYes X0.here hx rfl (pc0 := 51) (pc' := 77) rfl (hb hby d1_51) rfl (feq (by decide)).2 (by decide) (by decide) q) ?_
  show Go _ _ _ _ _ _ _ (s₁.setTop (mkF m 77 #[.val (.int (4 : Int32)), .val (.int x1), .val (.int x2), .val (.int x3), .val (.int x4), .val (.int x5)] []))
  refine Go.of (fun _ q => XS.iloadN X0.here hx rfl (hb hby d1_77) rfl q) ?_
  show Go _ _ _ _ _ _ _ (s₁.setTop (mkF m 78 #[.val (.int (4 : Int32)), .val (.int x1), .val (.int x2), .val (.int x3), .val (.int x4), .val (.int x5)] [(.int (4 : Int32))]))
  refine Go.of (fun _ q => XS.iconst X0.here hx rfl (hb hby d1_78) q) ?_
  show Go _ _ _ _ _ _ _ (s₁.setTop (mkF m 79 #[.val (.int (4 : Int32)), .val (.int x1), .val (.int x2), .val (.int x3), .val (.int x4), .val (.int x5)] [(.int (4 : Int32)), (.int (4 : Int32))]))
  refine Go.of (fun _ q => XS.icmpNo X0.here hx rfl (hb hby d1_79) rfl (teq rfl).2 q) ?_
  show Go _ _ _ _ _ _ _ (s₁.setTop (mkF m 82 #[.val (.int (4 : Int32)), .val (.int x1), .val (.int x2), .val (.int x3), .val (.int x4), .val (.int x5)] []))
  obtain ⟨T1, h1, X1, e1, E1, A1, D1, -, st1⟩ := newO X0 hx hZ hown (hw _ (List.mem_of_getElem? (i := 5) rfl)) (hw _ (List.mem_of_getElem? (i := 6) rfl)) (hw _ (List.mem_of_getElem? (i := 7) rfl)) e0 (g := (mkF m 82 #[.val (.int (4 : Int32)), .val (.int x1), .val (.int x2), .val (.int x3), .val (.int x4), .val (.int x5)] [])) rfl (hb hby d1_82) (by decide) (by decide)
  obtain ⟨sa, g1⟩ : ∃ z, z = h0.size := ⟨_, rfl⟩
  rw [← g1] at A1 D1 st1
  refine Go.of st1 ?_
  have g_sa : n0 ≤ sa := Nat.le_trans Zs (Nat.le_of_eq g1.symm)
  have sz_sa : h0.size ≤ sa := Nat.le_trans Kp.1 (Nat.le_of_eq g1.symm)
  have Zs := Nat.le_trans Zs E1.1
  have Kp := Kp.ext E1
  have Od := Od.ext E1
  have E_sa := A1
  have F_sa_coder : Fld Z h1 sa "java/lang/String" "coder" "B" (.int (0 : Int32)) := D1 (Or.inr (hw _ (List.mem_of_getElem? (i := 32) rfl))) (ty := .byte) (by decide)
  have F_sa_value : Fld Z h1 sa "java/lang/String" "value" "[B" .null := D1 (Or.inr (hw _ (List.mem_of_getElem? (i := 34) rfl))) (ty := (.array .byte)) (by decide)
  show Go _ _ _ _ _ _ _ (T1.setTop (mkF m 85 #[.val (.int (4 : Int32)), .val (.int x1), .val (.int x2), .val (.int x3), .val (.int x4), .val (.int x5)] [(.ref sa)]))
  refine Go.of (fun _ q => XS.dup X1.here hx rfl (hb hby d1_85) rfl rfl q) ?_
  show Go _ _ _ _ _ _ _ (T1.setTop (mkF m 86 #[.val (.int (4 : Int32)), .val (.int x1), .val (.int x2), .val (.int x3), .val (.int x4), .val (.int x5)] [(.ref sa), (.ref sa)]))
  refine Go.of (fun _ q => XS.iconst X1.here hx rfl (hb hby d1_86) q) ?_
  show Go _ _ _ _ _ _ _ (T1.setTop (mkF m 87 #[.val (.int (4 : Int32)), .val (.int x1), .val (.int x2), .val (.int x3), .val (.int x4), .val (.int x5)] [(.int (4 : Int32)), (.ref sa), (.ref sa)]))
  obtain ⟨T2, h2, k2, X2, e2, E2, A2, B2, st2⟩ := newPE X1 hx hZ (hw _ (List.mem_of_getElem? (i := 8) rfl)) e1 (g := (mkF m 87 #[.val (.int (4 : Int32)), .val (.int x1), .val (.int x2), .val (.int x3), .val (.int x4), .val (.int x5)] [(.int (4 : Int32)), (.ref sa), (.ref sa)])) rfl (hb hby d1_87) rfl (by decide) (cap := 4) (by decide) (by decide) (by decide) (by decide) (ad := "[C") (by decide)
  obtain ⟨b, g2⟩ : ∃ z, z = h1.size := ⟨_, rfl⟩
  rw [← g2] at A2 B2 st2
  refine Go.of st2 ?_
  have g_b : n0 ≤ b := Nat.le_trans Zs (Nat.le_of_eq g2.symm)
  have sz_b : h0.size ≤ b := Nat.le_trans Kp.1 (Nat.le_of_eq g2.symm)
  have ne_sa_b : sa ≠ b := Nat.ne_of_lt (Nat.lt_of_lt_of_le E_sa.lt (Nat.le_of_eq g2.symm))
  have Zs := Nat.le_trans Zs E2.1
  have Kp := Kp.ext E2
  have Od := Od.ext E2
  have E_sa := E_sa.ext E2
  have F_sa_coder := F_sa_coder.ext E2
  have F_sa_value := F_sa_value.ext E2
  have E_b := B2
  have A_b : AF Z h2 b k2 .char 4 (fun i => .int ((fun _ => (0 : Int32)) i)) := AF.new A2 (by decide) rfl rfl
  show Go _ _ _ _ _ _ _ (T2.setTop (mkF m 89 #[.val (.int (4 : Int32)), .val (.int x1), .val (.int x2), .val (.int x3), .val (.int x4), .val (.int x5)] [(.ref b), (.ref sa), (.ref sa)]))
  refine Go.of (fun _ q => XS.dup X2.here hx rfl (hb hby d1_89) rfl rfl q) ?_
  show Go _ _ _ _ _ _ _ (T2.setTop (mkF m 90 #[.val (.int (4 : Int32)), .val (.int x1), .val (.int x2), .val (.int x3), .val (.int x4), .val (.int x5)] [(.ref b), (.ref b), (.ref sa), (.ref sa)]))
  refine Go.of (fun _ q => XS.iconst X2.here hx rfl (hb hby d1_90) q) ?_
  show Go _ _ _ _ _ _ _ (T2.setTop (mkF m 91 #[.val (.int (4 : Int32)), .val (.int x1), .val (.int x2), .val (.int x3), .val (.int x4), .val (.int x5)] [(.int (0 : Int32)), (.ref b), (.ref b), (.ref sa), (.ref sa)]))
  refine Go.of (fun _ q => XS.iloadN X2.here hx rfl (hb hby d1_91) rfl q) ?_
  show Go _ _ _ _ _ _ _ (T2.setTop (mkF m 92 #[.val (.int (4 : Int32)), .val (.int x1), .val (.int x2), .val (.int x3), .val (.int x4), .val (.int x5)] [(.int x1), (.int (0 : Int32)), (.ref b), (.ref b), (.ref sa), (.ref sa)]))
  obtain ⟨T3, h3, X3, e3, W3, A3', st3⟩ := AF.castore A_b X2 hx hZ e2 (i := 0) ⟨rfl, by decide, by decide⟩ (g := (mkF m 92 #[.val (.int (4 : Int32)), .val (.int x1), .val (.int x2), .val (.int x3), .val (.int x4), .val (.int x5)] [(.int x1), (.int (0 : Int32)), (.ref b), (.ref b), (.ref sa), (.ref sa)])) rfl rfl (hb hby d1_92)
  refine Go.of st3 ?_
  have Zs := Nat.le_trans Zs (Nat.le_of_eq W3.size.symm)
  have Kp := Kp.wr W3 (Or.inr sz_b)
  have Od := Od.wr W3 g_b
  have E_sa := E_sa.wr W3
  have F_sa_coder := F_sa_coder.other W3 (Or.inl ne_sa_b)
  have F_sa_value := F_sa_value.other W3 (Or.inl ne_sa_b)
  have E_b := E_b.wr W3
  have A_b : AF Z h3 b k2 .char 4 (fun i => .int ((upI (fun _ => (0 : Int32)) 0 (x1.toUInt32.toUInt16.toUInt32.toInt32)) i)) := A3'.toI
  have N3 := Fr.snoc X3 N0 g_b
  show Go _ _ _ _ _ _ _ (T3.setTop (mkF m 93 #[.val (.int (4 : Int32)), .val (.int x1), .val (.int x2), .val (.int x3), .val (.int x4), .val (.int x5)] [(.ref b), (.ref sa), (.ref sa)]))
  refine Go.of (fun _ q => XS.dup X3.here hx rfl (hb hby d1_93) rfl rfl q) ?_
  show Go _ _ _ _ _ _ _ (T3.setTop (mkF m 94 #[.val (.int (4 : Int32)), .val (.int x1), .val (.int x2), .val (.int x3), .val (.int x4), .val (.int x5)] [(.ref b), (.ref b), (.ref sa), (.ref sa)]))
  refine Go.of (fun _ q => XS.iconst X3.here hx rfl (hb hby d1_94) q) ?_
  show Go _ _ _ _ _ _ _ (T3.setTop (mkF m 95 #[.val (.int (4 : Int32)), .val (.int x1), .val (.int x2), .val (.int x3), .val (.int x4), .val (.int x5)] [(.int (1 : Int32)), (.ref b), (.ref b), (.ref sa), (.ref sa)]))
  refine Go.of (fun _ q => XS.iloadN X3.here hx rfl (hb hby d1_95) rfl q) ?_
  show Go _ _ _ _ _ _ _ (T3.setTop (mkF m 96 #[.val (.int (4 : Int32)), .val (.int x1), .val (.int x2), .val (.int x3), .val (.int x4), .val (.int x5)] [(.int x2), (.int (1 : Int32)), (.ref b), (.ref b), (.ref sa), (.ref sa)]))
  obtain ⟨T4, h4, X4, e4, W4, A4', st4⟩ := AF.castore A_b X3 hx hZ e3 (i := 1) ⟨rfl, by decide, by decide⟩ (g := (mkF m 96 #[.val (.int (4 : Int32)), .val (.int x1), .val (.int x2), .val (.int x3), .val (.int x4), .val (.int x5)] [(.int x2), (.int (1 : Int32)), (.ref b), (.ref b), (.ref sa), (.ref sa)])) rfl rfl (hb hby d1_96)
  refine Go.of st4 ?_
  have Zs := Nat.le_trans Zs (Nat.le_of_eq W4.size.symm)
  have Kp := Kp.wr W4 (Or.inr sz_b)
  have Od := Od.wr W4 g_b
  have E_sa := E_sa.wr W4
  have F_sa_coder := F_sa_coder.other W4 (Or.inl ne_sa_b)
  have F_sa_value := F_sa_value.other W4 (Or.inl ne_sa_b)
  have E_b := E_b.wr W4
  have A_b : AF Z h4 b k2 .char 4 (fun i => .int ((upI (upI (fun _ => (0 : Int32)) 0 (x1.toUInt32.toUInt16.toUInt32.toInt32)) 1 (x2.toUInt32.toUInt16.toUInt32.toInt32)) i)) := A4'.toI
  have N4 := Fr.snoc X4 N3 g_b
  show Go _ _ _ _ _ _ _ (T4.setTop (mkF m 97 #[.val (.int (4 : Int32)), .val (.int x1), .val (.int x2), .val (.int x3), .val (.int x4), .val (.int x5)] [(.ref b), (.ref sa), (.ref sa)]))
  refine Go.of (fun _ q => XS.dup X4.here hx rfl (hb hby d1_97) rfl rfl q) ?_
  show Go _ _ _ _ _ _ _ (T4.setTop (mkF m 98 #[.val (.int (4 : Int32)), .val (.int x1), .val (.int x2), .val (.int x3), .val (.int x4), .val (.int x5)] [(.ref b), (.ref b), (.ref sa), (.ref sa)]))
  refine Go.of (fun _ q => XS.iconst X4.here hx rfl (hb hby d1_98) q) ?_
  show Go _ _ _ _ _ _ _ (T4.setTop (mkF m 99 #[.val (.int (4 : Int32)), .val (.int x1), .val (.int x2), .val (.int x3), .val (.int x4), .val (.int x5)] [(.int (2 : Int32)), (.ref b), (.ref b), (.ref sa), (.ref sa)]))
  refine Go.of (fun _ q => XS.iloadN X4.here hx rfl (hb hby d1_99) rfl q) ?_
  show Go _ _ _ _ _ _ _ (T4.setTop (mkF m 100 #[.val (.int (4 : Int32)), .val (.int x1), .val (.int x2), .val (.int x3), .val (.int x4), .val (.int x5)] [(.int x3), (.int (2 : Int32)), (.ref b), (.ref b), (.ref sa), (.ref sa)]))
  obtain ⟨T5, h5, X5, e5, W5, A5', st5⟩ := AF.castore A_b X4 hx hZ e4 (i := 2) ⟨rfl, by decide, by decide⟩ (g := (mkF m 100 #[.val (.int (4 : Int32)), .val (.int x1), .val (.int x2), .val (.int x3), .val (.int x4), .val (.int x5)] [(.int x3), (.int (2 : Int32)), (.ref b), (.ref b), (.ref sa), (.ref sa)])) rfl rfl (hb hby d1_100)
  refine Go.of st5 ?_
  have Zs := Nat.le_trans Zs (Nat.le_of_eq W5.size.symm)
  have Kp := Kp.wr W5 (Or.inr sz_b)
  have Od := Od.wr W5 g_b
  have E_sa := E_sa.wr W5
  have F_sa_coder := F_sa_coder.other W5 (Or.inl ne_sa_b)
  have F_sa_value := F_sa_value.other W5 (Or.inl ne_sa_b)
  have E_b := E_b.wr W5
  have A_b : AF Z h5 b k2 .char 4 (fun i => .int ((upI (upI (upI (fun _ => (0 : Int32)) 0 (x1.toUInt32.toUInt16.toUInt32.toInt32)) 1 (x2.toUInt32.toUInt16.toUInt32.toInt32)) 2 (x3.toUInt32.toUInt16.toUInt32.toInt32)) i)) := A5'.toI
  have N5 := Fr.snoc X5 N4 g_b
  show Go _ _ _ _ _ _ _ (T5.setTop (mkF m 101 #[.val (.int (4 : Int32)), .val (.int x1), .val (.int x2), .val (.int x3), .val (.int x4), .val (.int x5)] [(.ref b), (.ref sa), (.ref sa)]))
  refine Go.of (fun _ q => XS.dup X5.here hx rfl (hb hby d1_101) rfl rfl q) ?_
  show Go _ _ _ _ _ _ _ (T5.setTop (mkF m 102 #[.val (.int (4 : Int32)), .val (.int x1), .val (.int x2), .val (.int x3), .val (.int x4), .val (.int x5)] [(.ref b), (.ref b), (.ref sa), (.ref sa)]))
  refine Go.of (fun _ q => XS.iconst X5.here hx rfl (hb hby d1_102) q) ?_
  show Go _ _ _ _ _ _ _ (T5.setTop (mkF m 103 #[.val (.int (4 : Int32)), .val (.int x1), .val (.int x2), .val (.int x3), .val (.int x4), .val (.int x5)] [(.int (3 : Int32)), (.ref b), (.ref b), (.ref sa), (.ref sa)]))
  refine Go.of (fun _ q => XS.iload X5.here hx rfl (hb hby d1_103) rfl q) ?_
  show Go _ _ _ _ _ _ _ (T5.setTop (mkF m 105 #[.val (.int (4 : Int32)), .val (.int x1), .val (.int x2), .val (.int x3), .val (.int x4), .val (.int x5)] [(.int x4), (.int (3 : Int32)), (.ref b), (.ref b), (.ref sa), (.ref sa)]))
  obtain ⟨T6, h6, X6, e6, W6, A6', st6⟩ := AF.castore A_b X5 hx hZ e5 (i := 3) ⟨rfl, by decide, by decide⟩ (g := (mkF m 105 #[.val (.int (4 : Int32)), .val (.int x1), .val (.int x2), .val (.int x3), .val (.int x4), .val (.int x5)] [(.int x4), (.int (3 : Int32)), (.ref b), (.ref b), (.ref sa), (.ref sa)])) rfl rfl (hb hby d1_105)
  refine Go.of st6 ?_
  have Zs := Nat.le_trans Zs (Nat.le_of_eq W6.size.symm)
  have Kp := Kp.wr W6 (Or.inr sz_b)
  have Od := Od.wr W6 g_b
  have E_sa := E_sa.wr W6
  have F_sa_coder := F_sa_coder.other W6 (Or.inl ne_sa_b)
  have F_sa_value := F_sa_value.other W6 (Or.inl ne_sa_b)
  have E_b := E_b.wr W6
  have A_b : AF Z h6 b k2 .char 4 (fun i => .int ((upI (upI (upI (upI (fun _ => (0 : Int32)) 0 (x1.toUInt32.toUInt16.toUInt32.toInt32)) 1 (x2.toUInt32.toUInt16.toUInt32.toInt32)) 2 (x3.toUInt32.toUInt16.toUInt32.toInt32)) 3 (x4.toUInt32.toUInt16.toUInt32.toInt32)) i)) := A6'.toI
  have N6 := Fr.snoc X6 N5 g_b
  show Go _ _ _ _ _ _ _ (T6.setTop (mkF m 106 #[.val (.int (4 : Int32)), .val (.int x1), .val (.int x2), .val (.int x3), .val (.int x4), .val (.int x5)] [(.ref b), (.ref sa), (.ref sa)]))
  refine Go.special X6 hx hZ (y := (⟨"java/lang/String", "<init>", "([C)V"⟩ : MethodName)) (a := sa) (argsL := [(.ref b)]) rfl hown (hw _ (List.mem_of_getElem? (i := 9) rfl)) (hw _ (List.mem_of_getElem? (i := 10) rfl)) (hw _ (List.mem_of_getElem? (i := 7) rfl)) (hw _ (List.mem_of_getElem? (i := 11) rfl)) (by decide) 1 e6 (rm2_s4 l Z a0 hw sa b k2 (upI (upI (upI (upI (fun _ => (0 : Int32)) 0 (x1.toUInt32.toUInt16.toUInt32.toInt32)) 1 (x2.toUInt32.toUInt16.toUInt32.toInt32)) 2 (x3.toUInt32.toUInt16.toUInt32.toInt32)) 3 (x4.toUInt32.toUInt16.toUInt32.toInt32)) .null (0 : Int32) cs h6 n0 Zs Od E_sa F_sa_value F_sa_coder g_sa A_b (Ne.symm ne_sa_b) (fun i hi => by rcases (show i = 0 ∨ i = 1 ∨ i = 2 ∨ i = 3 by omega) with rfl | rfl | rfl | rfl <;> first | exact hc1 | exact hc2 | exact hc3 | exact hc4) Scs hcs) (by decide) (by decide) (by decide) (by decide) (g := (mkF m 106 #[.val (.int (4 : Int32)), .val (.int x1), .val (.int x2), .val (.int x3), .val (.int x4), .val (.int x5)] [(.ref b), (.ref sa), (.ref sa)])) rfl (by rw [hml]; rfl) (rest := [(.ref sa)]) (lenOf pd11 rfl) rfl (by show 2 * 0 + _ ≤ _; exact Nat.le_of_eq rfl) (hb hby d1_106) ?_
  intro T7 v7 L7 X7 q7
  obtain ⟨d, kd0, rfl, Nq7, K7, f7_0, f7_1, f7_2, f7_3, f7_4⟩ := q7
  have N7 := Fr.app N6 Nq7
  have g_d : n0 ≤ d := Nat.le_trans Zs f7_0
  have sz_d : h0.size ≤ d := Nat.le_trans Kp.1 f7_0
  have ne_sa_d : sa ≠ d := Nat.ne_of_lt (Nat.lt_of_lt_of_le E_sa.lt f7_0)
  have ne_b_d : b ≠ d := Nat.ne_of_lt (Nat.lt_of_lt_of_le E_b.lt f7_0)
  have Zs := Nat.le_trans Zs K7.1
  have Kp := Kp.trans K7 (allS (P := fun x => x ∈ [] ∨ h0.size ≤ x) (Or.inr sz_sa) all0)
  have Od := Od.keep K7 (allS (P := fun x => n0 ≤ x) g_sa all0)
  have E_sa := E_sa.keep K7
  have E_b := E_b.keep K7
  have A_b := A_b.keep K7 (ninS (Ne.symm ne_sa_b) nin0)
  have F_sa_value := f7_2
  have F_sa_coder := f7_3
  have A_d := f7_4
  show Go _ _ _ _ _ _ _ (T7.setTop (mkF m 109 #[.val (.int (4 : Int32)), .val (.int x1), .val (.int x2), .val (.int x3), .val (.int x4), .val (.int x5)] [(.ref sa)]))
  refine Go.retA X7 hx hlk hret rfl rfl (hb hby d1_109) (by decide) (by decide) ?_
  exact ⟨sa, d, kd0, (fun i => own_by ((upI (upI (upI (upI (fun _ => (0 : Int32)) 0 (x1.toUInt32.toUInt16.toUInt32.toInt32)) 1 (x2.toUInt32.toUInt16.toUInt32.toInt32)) 2 (x3.toUInt32.toUInt16.toUInt32.toInt32)) 3 (x4.toUInt32.toUInt16.toUInt32.toInt32)) i)), rfl, N7, Kp, sz_sa, E_sa, F_sa_value, F_sa_coder, A_d⟩
theorem ef_6_s5 (m : MethodId) (b : Addr) (d : Addr) : entryFrame m #[(.ref b), (.int (0 : Int32)), (.ref d), (.int (0 : Int32)), (.int (5 : Int32))] 7 = mkF m 0 #[.val (.ref b), .val (.int (0 : Int32)), .val (.ref d), .val (.int (0 : Int32)), .val (.int (5 : Int32)), .unset, .unset] [] := by first | (simp [entryFrame, mkF, argsToLocals, Value.category]; done) | rfl
def Q6_s5 (Z : State) (b : Addr) (d : Addr) (kb : ClassId) (gb : Nat → Int32) (kd : ClassId) (gd : Nat → Int32) (h0 : Heap) (n0 : Nat) (v : Option Value) (h : Heap) (L : List Loc) : Prop := v = some (.int (5 : Int32)) ∧ Fr n0 L ∧ Keep h0 h [d] ∧ AF Z h d kd .byte 5 (fun i => .int ((fun i => own_by (gb i)) i))
set_option maxRecDepth 65536 in
set_option maxHeartbeats 40000000 in
theorem rm6_s5 (l : Launch) (Z : State) (a0 : Array Value) (hw : ∀ d ∈ tables_1, d.before a0 Z = true) (b : Addr) (d : Addr) (kb : ClassId) (gb : Nat → Int32) (kd : ClassId) (gd : Nat → Int32) (h0 : Heap) (n0 : Nat) (Zs : n0 ≤ h0.size) (A_b : AF Z h0 b kb .char 5 (fun i => .int (gb i))) (A_d : AF Z h0 d kd .byte 5 (fun i => .int (gd i))) (ne_b_d : b ≠ d) (g_d : n0 ≤ d) (hg : ∀ i, i < 5 → ¬ (255 : Int32) < gb i) :
    Con l Z (⟨"java/lang/StringUTF16", "compress", "([CI[BII)I"⟩ : MethodName) jdk_52_method_21_code 7 (some .int) ({ frames := 0, cells := 0, slots := 0, locals := 0 } : Room) #[(.ref b), (.int (0 : Int32)), (.ref d), (.int (0 : Int32)), (.int (5 : Int32))] h0 (Q6_s5 Z b d kb gb kd gd h0 n0) := by
  refine Con.intro (plainFor_of_name pn5) (fun m => ef_6_s5 m b d) ?_
  intro p e s m below meth c s₁ hx hby hml0 hZ hown hnm hret hlk X0 e0
  have hml : c.maxLocals = 7 := hml0
  have N0 := Fr.nil n0
  have Kp : Keep h0 h0 [d] := Keep.refl h0 _
  show Go _ _ _ _ _ _ _ (s₁.setTop (mkF m 0 #[.val (.ref b), .val (.int (0 : Int32)), .val (.ref d), .val (.int (0 : Int32)), .val (.int (5 : Int32)), .unset, .unset] []))
  refine Go.of (fun _ q => XS.iconst X0.here hx rfl (hb hby d6_0) q) ?_
  show Go _ _ _ _ _ _ _ (s₁.setTop (mkF m 1 #[.val (.ref b), .val (.int (0 : Int32)), .val (.ref d), .val (.int (0 : Int32)), .val (.int (5 : Int32)), .unset, .unset] [(.int (0 : Int32))]))
  refine Go.of (fun _ q => XS.istore X0.here hx rfl (hb hby d6_1) rfl (l' := #[.val (.ref b), .val (.int (0 : Int32)), .val (.ref d), .val (.int (0 : Int32)), .val (.int (5 : Int32)), .val (.int (0 : Int32)), .unset]) rfl q) ?_
  show Go _ _ _ _ _ _ _ (s₁.setTop (mkF m 3 #[.val (.ref b), .val (.int (0 : Int32)), .val (.ref d), .val (.int (0 : Int32)), .val (.int (5 : Int32)), .val (.int (0 : Int32)), .unset] []))
  refine Go.of (fun _ q => XS.iload X0.here hx rfl (hb hby d6_3) rfl q) ?_
  show Go _ _ _ _ _ _ _ (s₁.setTop (mkF m 5 #[.val (.ref b), .val (.int (0 : Int32)), .val (.ref d), .val (.int (0 : Int32)), .val (.int (5 : Int32)), .val (.int (0 : Int32)), .unset] [(.int (0 : Int32))]))
  refine Go.of (fun _ q => XS.iload X0.here hx rfl (hb hby d6_5) rfl q) ?_
  show Go _ _ _ _ _ _ _ (s₁.setTop (mkF m 7 #[.val (.ref b), .val (.int (0 : Int32)), .val (.ref d), .val (.int (0 : Int32)), .val (.int (5 : Int32)), .val (.int (0 : Int32)), .unset] [(.int (5 : Int32)), (.int (0 : Int32))]))
  refine Go.of (fun _ q => XS.icmpNo X0.here hx rfl (hb hby d6_7) rfl (tlt (by decide)).2.1 q) ?_
  show Go _ _ _ _ _ _ _ (s₁.setTop (mkF m 10 #[.val (.ref b), .val (.int (0 : Int32)), .val (.ref d), .val (.int (0 : Int32)), .val (.int (5 : Int32)), .val (.int (0 : Int32)), .unset] []))
  refine Go.of (fun _ q => XS.aloadN X0.here hx rfl (hb hby d6_10) rfl rfl q) ?_
  show Go _ _ _ _ _ _ _ (s₁.setTop (mkF m 11 #[.val (.ref b), .val (.int (0 : Int32)), .val (.ref d), .val (.int (0 : Int32)), .val (.int (5 : Int32)), .val (.int (0 : Int32)), .unset] [(.ref b)]))
  refine Go.of (fun _ q => XS.iloadN X0.here hx rfl (hb hby d6_11) rfl q) ?_
  show Go _ _ _ _ _ _ _ (s₁.setTop (mkF m 12 #[.val (.ref b), .val (.int (0 : Int32)), .val (.ref d), .val (.int (0 : Int32)), .val (.int (5 : Int32)), .val (.int (0 : Int32)), .unset] [(.int (0 : Int32)), (.ref b)]))
  refine Go.of (fun _ q => AF.caload A_b X0 hx hZ e0 ⟨rfl, by decide, by decide⟩ (v := (.int (gb 0))) rfl (g := (mkF m 12 #[.val (.ref b), .val (.int (0 : Int32)), .val (.ref d), .val (.int (0 : Int32)), .val (.int (5 : Int32)), .val (.int (0 : Int32)), .unset] [(.int (0 : Int32)), (.ref b)])) rfl rfl (hb hby d6_12) q) ?_
  show Go _ _ _ _ _ _ _ (s₁.setTop (mkF m 13 #[.val (.ref b), .val (.int (0 : Int32)), .val (.ref d), .val (.int (0 : Int32)), .val (.int (5 : Int32)), .val (.int (0 : Int32)), .unset] [(.int (gb 0))]))
  refine Go.of (fun _ q => XS.istore X0.here hx rfl (hb hby d6_13) rfl (l' := #[.val (.ref b), .val (.int (0 : Int32)), .val (.ref d), .val (.int (0 : Int32)), .val (.int (5 : Int32)), .val (.int (0 : Int32)), .val (.int (gb 0))]) rfl q) ?_
  show Go _ _ _ _ _ _ _ (s₁.setTop (mkF m 15 #[.val (.ref b), .val (.int (0 : Int32)), .val (.ref d), .val (.int (0 : Int32)), .val (.int (5 : Int32)), .val (.int (0 : Int32)), .val (.int (gb 0))] []))
  refine Go.of (fun _ q => XS.iload X0.here hx rfl (hb hby d6_15) rfl q) ?_
  show Go _ _ _ _ _ _ _ (s₁.setTop (mkF m 17 #[.val (.ref b), .val (.int (0 : Int32)), .val (.ref d), .val (.int (0 : Int32)), .val (.int (5 : Int32)), .val (.int (0 : Int32)), .val (.int (gb 0))] [(.int (gb 0))]))
  refine Go.of (fun _ q => XS.sipush X0.here hx rfl (hb hby d6_17) q) ?_
  show Go _ _ _ _ _ _ _ (s₁.setTop (mkF m 20 #[.val (.ref b), .val (.int (0 : Int32)), .val (.ref d), .val (.int (0 : Int32)), .val (.int (5 : Int32)), .val (.int (0 : Int32)), .val (.int (gb 0))] [(.int (255 : Int32)), (.int (gb 0))]))
  refine Go.of (fun _ q => XS.icmpYes X0.here hx rfl (pc0 := 20) (pc' := 26) rfl (hb hby d6_20) rfl (flt (hg 0 (by decide))).2.2.2 (by decide) (by decide) q) ?_
  show Go _ _ _ _ _ _ _ (s₁.setTop (mkF m 26 #[.val (.ref b), .val (.int (0 : Int32)), .val (.ref d), .val (.int (0 : Int32)), .val (.int (5 : Int32)), .val (.int (0 : Int32)), .val (.int (gb 0))] []))
  refine Go.of (fun _ q => XS.aloadN X0.here hx rfl (hb hby d6_26) rfl rfl q) ?_
  show Go _ _ _ _ _ _ _ (s₁.setTop (mkF m 27 #[.val (.ref b), .val (.int (0 : Int32)), .val (.ref d), .val (.int (0 : Int32)), .val (.int (5 : Int32)), .val (.int (0 : Int32)), .val (.int (gb 0))] [(.ref d)]))
  refine Go.of (fun _ q => XS.iloadN X0.here hx rfl (hb hby d6_27) rfl q) ?_
  show Go _ _ _ _ _ _ _ (s₁.setTop (mkF m 28 #[.val (.ref b), .val (.int (0 : Int32)), .val (.ref d), .val (.int (0 : Int32)), .val (.int (5 : Int32)), .val (.int (0 : Int32)), .val (.int (gb 0))] [(.int (0 : Int32)), (.ref d)]))
  refine Go.of (fun _ q => XS.iload X0.here hx rfl (hb hby d6_28) rfl q) ?_
  show Go _ _ _ _ _ _ _ (s₁.setTop (mkF m 30 #[.val (.ref b), .val (.int (0 : Int32)), .val (.ref d), .val (.int (0 : Int32)), .val (.int (5 : Int32)), .val (.int (0 : Int32)), .val (.int (gb 0))] [(.int (gb 0)), (.int (0 : Int32)), (.ref d)]))
  refine Go.of (fun _ q => XS.i2b X0.here hx rfl (hb hby d6_30) rfl q) ?_
  show Go _ _ _ _ _ _ _ (s₁.setTop (mkF m 31 #[.val (.ref b), .val (.int (0 : Int32)), .val (.ref d), .val (.int (0 : Int32)), .val (.int (5 : Int32)), .val (.int (0 : Int32)), .val (.int (gb 0))] [(.int ((gb 0).toInt8.toInt32)), (.int (0 : Int32)), (.ref d)]))
  obtain ⟨T1, h1, X1, e1, W1, A1', st1⟩ := AF.bastore A_d X0 hx hZ e0 (i := 0) ⟨rfl, by decide, by decide⟩ (g := (mkF m 31 #[.val (.ref b), .val (.int (0 : Int32)), .val (.ref d), .val (.int (0 : Int32)), .val (.int (5 : Int32)), .val (.int (0 : Int32)), .val (.int (gb 0))] [(.int ((gb 0).toInt8.toInt32)), (.int (0 : Int32)), (.ref d)])) rfl rfl (hb hby d6_31)
  refine Go.of st1 ?_
  have Zs := Nat.le_trans Zs (Nat.le_of_eq W1.size.symm)
  have Kp := Kp.wr W1 (Or.inl (List.mem_of_getElem? (i := 0) rfl))
  have A_b := A_b.other W1 ne_b_d
  have A_d : AF Z h1 d kd .byte 5 (fun i => .int ((upI gd 0 (((gb 0).toInt8.toInt32).toInt8.toInt32)) i)) := A1'.toI
  have N1 := Fr.snoc X1 N0 g_d
  show Go _ _ _ _ _ _ _ (T1.setTop (mkF m 32 #[.val (.ref b), .val (.int (0 : Int32)), .val (.ref d), .val (.int (0 : Int32)), .val (.int (5 : Int32)), .val (.int (0 : Int32)), .val (.int (gb 0))] []))
  refine Go.of (fun _ q => XS.iinc X1.here hx rfl (hb hby d6_32) rfl (l' := #[.val (.ref b), .val (.int (1 : Int32)), .val (.ref d), .val (.int (0 : Int32)), .val (.int (5 : Int32)), .val (.int (0 : Int32)), .val (.int (gb 0))]) rfl q) ?_
  show Go _ _ _ _ _ _ _ (T1.setTop (mkF m 35 #[.val (.ref b), .val (.int (1 : Int32)), .val (.ref d), .val (.int (0 : Int32)), .val (.int (5 : Int32)), .val (.int (0 : Int32)), .val (.int (gb 0))] []))
  refine Go.of (fun _ q => XS.iinc X1.here hx rfl (hb hby d6_35) rfl (l' := #[.val (.ref b), .val (.int (1 : Int32)), .val (.ref d), .val (.int (1 : Int32)), .val (.int (5 : Int32)), .val (.int (0 : Int32)), .val (.int (gb 0))]) rfl q) ?_
  show Go _ _ _ _ _ _ _ (T1.setTop (mkF m 38 #[.val (.ref b), .val (.int (1 : Int32)), .val (.ref d), .val (.int (1 : Int32)), .val (.int (5 : Int32)), .val (.int (0 : Int32)), .val (.int (gb 0))] []))
  refine Go.of (fun _ q => XS.iinc X1.here hx rfl (hb hby d6_38) rfl (l' := #[.val (.ref b), .val (.int (1 : Int32)), .val (.ref d), .val (.int (1 : Int32)), .val (.int (5 : Int32)), .val (.int (1 : Int32)), .val (.int (gb 0))]) rfl q) ?_
  show Go _ _ _ _ _ _ _ (T1.setTop (mkF m 41 #[.val (.ref b), .val (.int (1 : Int32)), .val (.ref d), .val (.int (1 : Int32)), .val (.int (5 : Int32)), .val (.int (1 : Int32)), .val (.int (gb 0))] []))
  refine Go.of (fun _ q => XS.goto X1.here hx rfl (pc0 := 41) (pc' := 3) rfl (hb hby d6_41) (by decide) (by decide) q) ?_
  show Go _ _ _ _ _ _ _ (T1.setTop (mkF m 3 #[.val (.ref b), .val (.int (1 : Int32)), .val (.ref d), .val (.int (1 : Int32)), .val (.int (5 : Int32)), .val (.int (1 : Int32)), .val (.int (gb 0))] []))
  refine Go.of (fun _ q => XS.iload X1.here hx rfl (hb hby d6_3) rfl q) ?_
  show Go _ _ _ _ _ _ _ (T1.setTop (mkF m 5 #[.val (.ref b), .val (.int (1 : Int32)), .val (.ref d), .val (.int (1 : Int32)), .val (.int (5 : Int32)), .val (.int (1 : Int32)), .val (.int (gb 0))] [(.int (1 : Int32))]))
  refine Go.of (fun _ q => XS.iload X1.here hx rfl (hb hby d6_5) rfl q) ?_
  show Go _ _ _ _ _ _ _ (T1.setTop (mkF m 7 #[.val (.ref b), .val (.int (1 : Int32)), .val (.ref d), .val (.int (1 : Int32)), .val (.int (5 : Int32)), .val (.int (1 : Int32)), .val (.int (gb 0))] [(.int (5 : Int32)), (.int (1 : Int32))]))
  refine Go.of (fun _ q => XS.icmpNo X1.here hx rfl (hb hby d6_7) rfl (tlt (by decide)).2.1 q) ?_
  show Go _ _ _ _ _ _ _ (T1.setTop (mkF m 10 #[.val (.ref b), .val (.int (1 : Int32)), .val (.ref d), .val (.int (1 : Int32)), .val (.int (5 : Int32)), .val (.int (1 : Int32)), .val (.int (gb 0))] []))
  refine Go.of (fun _ q => XS.aloadN X1.here hx rfl (hb hby d6_10) rfl rfl q) ?_
  show Go _ _ _ _ _ _ _ (T1.setTop (mkF m 11 #[.val (.ref b), .val (.int (1 : Int32)), .val (.ref d), .val (.int (1 : Int32)), .val (.int (5 : Int32)), .val (.int (1 : Int32)), .val (.int (gb 0))] [(.ref b)]))
  refine Go.of (fun _ q => XS.iloadN X1.here hx rfl (hb hby d6_11) rfl q) ?_
  show Go _ _ _ _ _ _ _ (T1.setTop (mkF m 12 #[.val (.ref b), .val (.int (1 : Int32)), .val (.ref d), .val (.int (1 : Int32)), .val (.int (5 : Int32)), .val (.int (1 : Int32)), .val (.int (gb 0))] [(.int (1 : Int32)), (.ref b)]))
  refine Go.of (fun _ q => AF.caload A_b X1 hx hZ e1 ⟨rfl, by decide, by decide⟩ (v := (.int (gb 1))) rfl (g := (mkF m 12 #[.val (.ref b), .val (.int (1 : Int32)), .val (.ref d), .val (.int (1 : Int32)), .val (.int (5 : Int32)), .val (.int (1 : Int32)), .val (.int (gb 0))] [(.int (1 : Int32)), (.ref b)])) rfl rfl (hb hby d6_12) q) ?_
  show Go _ _ _ _ _ _ _ (T1.setTop (mkF m 13 #[.val (.ref b), .val (.int (1 : Int32)), .val (.ref d), .val (.int (1 : Int32)), .val (.int (5 : Int32)), .val (.int (1 : Int32)), .val (.int (gb 0))] [(.int (gb 1))]))
  refine Go.of (fun _ q => XS.istore X1.here hx rfl (hb hby d6_13) rfl (l' := #[.val (.ref b), .val (.int (1 : Int32)), .val (.ref d), .val (.int (1 : Int32)), .val (.int (5 : Int32)), .val (.int (1 : Int32)), .val (.int (gb 1))]) rfl q) ?_
  show Go _ _ _ _ _ _ _ (T1.setTop (mkF m 15 #[.val (.ref b), .val (.int (1 : Int32)), .val (.ref d), .val (.int (1 : Int32)), .val (.int (5 : Int32)), .val (.int (1 : Int32)), .val (.int (gb 1))] []))
  refine Go.of (fun _ q => XS.iload X1.here hx rfl (hb hby d6_15) rfl q) ?_
  show Go _ _ _ _ _ _ _ (T1.setTop (mkF m 17 #[.val (.ref b), .val (.int (1 : Int32)), .val (.ref d), .val (.int (1 : Int32)), .val (.int (5 : Int32)), .val (.int (1 : Int32)), .val (.int (gb 1))] [(.int (gb 1))]))
  refine Go.of (fun _ q => XS.sipush X1.here hx rfl (hb hby d6_17) q) ?_
  show Go _ _ _ _ _ _ _ (T1.setTop (mkF m 20 #[.val (.ref b), .val (.int (1 : Int32)), .val (.ref d), .val (.int (1 : Int32)), .val (.int (5 : Int32)), .val (.int (1 : Int32)), .val (.int (gb 1))] [(.int (255 : Int32)), (.int (gb 1))]))
  refine Go.of (fun _ q => XS.icmpYes X1.here hx rfl (pc0 := 20) (pc' := 26) rfl (hb hby d6_20) rfl (flt (hg 1 (by decide))).2.2.2 (by decide) (by decide) q) ?_
  show Go _ _ _ _ _ _ _ (T1.setTop (mkF m 26 #[.val (.ref b), .val (.int (1 : Int32)), .val (.ref d), .val (.int (1 : Int32)), .val (.int (5 : Int32)), .val (.int (1 : Int32)), .val (.int (gb 1))] []))
  refine Go.of (fun _ q => XS.aloadN X1.here hx rfl (hb hby d6_26) rfl rfl q) ?_
  show Go _ _ _ _ _ _ _ (T1.setTop (mkF m 27 #[.val (.ref b), .val (.int (1 : Int32)), .val (.ref d), .val (.int (1 : Int32)), .val (.int (5 : Int32)), .val (.int (1 : Int32)), .val (.int (gb 1))] [(.ref d)]))
  refine Go.of (fun _ q => XS.iloadN X1.here hx rfl (hb hby d6_27) rfl q) ?_
  show Go _ _ _ _ _ _ _ (T1.setTop (mkF m 28 #[.val (.ref b), .val (.int (1 : Int32)), .val (.ref d), .val (.int (1 : Int32)), .val (.int (5 : Int32)), .val (.int (1 : Int32)), .val (.int (gb 1))] [(.int (1 : Int32)), (.ref d)]))
  refine Go.of (fun _ q => XS.iload X1.here hx rfl (hb hby d6_28) rfl q) ?_
  show Go _ _ _ _ _ _ _ (T1.setTop (mkF m 30 #[.val (.ref b), .val (.int (1 : Int32)), .val (.ref d), .val (.int (1 : Int32)), .val (.int (5 : Int32)), .val (.int (1 : Int32)), .val (.int (gb 1))] [(.int (gb 1)), (.int (1 : Int32)), (.ref d)]))
  refine Go.of (fun _ q => XS.i2b X1.here hx rfl (hb hby d6_30) rfl q) ?_
  show Go _ _ _ _ _ _ _ (T1.setTop (mkF m 31 #[.val (.ref b), .val (.int (1 : Int32)), .val (.ref d), .val (.int (1 : Int32)), .val (.int (5 : Int32)), .val (.int (1 : Int32)), .val (.int (gb 1))] [(.int ((gb 1).toInt8.toInt32)), (.int (1 : Int32)), (.ref d)]))
  obtain ⟨T2, h2, X2, e2, W2, A2', st2⟩ := AF.bastore A_d X1 hx hZ e1 (i := 1) ⟨rfl, by decide, by decide⟩ (g := (mkF m 31 #[.val (.ref b), .val (.int (1 : Int32)), .val (.ref d), .val (.int (1 : Int32)), .val (.int (5 : Int32)), .val (.int (1 : Int32)), .val (.int (gb 1))] [(.int ((gb 1).toInt8.toInt32)), (.int (1 : Int32)), (.ref d)])) rfl rfl (hb hby d6_31)
  refine Go.of st2 ?_
  have Zs := Nat.le_trans Zs (Nat.le_of_eq W2.size.symm)
  have Kp := Kp.wr W2 (Or.inl (List.mem_of_getElem? (i := 0) rfl))
  have A_b := A_b.other W2 ne_b_d
  have A_d : AF Z h2 d kd .byte 5 (fun i => .int ((upI (upI gd 0 (((gb 0).toInt8.toInt32).toInt8.toInt32)) 1 (((gb 1).toInt8.toInt32).toInt8.toInt32)) i)) := A2'.toI
  have N2 := Fr.snoc X2 N1 g_d
  show Go _ _ _ _ _ _ _ (T2.setTop (mkF m 32 #[.val (.ref b), .val (.int (1 : Int32)), .val (.ref d), .val (.int (1 : Int32)), .val (.int (5 : Int32)), .val (.int (1 : Int32)), .val (.int (gb 1))] []))
  refine Go.of (fun _ q => XS.iinc X2.here hx rfl (hb hby d6_32) rfl (l' := #[.val (.ref b), .val (.int (2 : Int32)), .val (.ref d), .val (.int (1 : Int32)), .val (.int (5 : Int32)), .val (.int (1 : Int32)), .val (.int (gb 1))]) rfl q) ?_
  show Go _ _ _ _ _ _ _ (T2.setTop (mkF m 35 #[.val (.ref b), .val (.int (2 : Int32)), .val (.ref d), .val (.int (1 : Int32)), .val (.int (5 : Int32)), .val (.int (1 : Int32)), .val (.int (gb 1))] []))
  refine Go.of (fun _ q => XS.iinc X2.here hx rfl (hb hby d6_35) rfl (l' := #[.val (.ref b), .val (.int (2 : Int32)), .val (.ref d), .val (.int (2 : Int32)), .val (.int (5 : Int32)), .val (.int (1 : Int32)), .val (.int (gb 1))]) rfl q) ?_
  show Go _ _ _ _ _ _ _ (T2.setTop (mkF m 38 #[.val (.ref b), .val (.int (2 : Int32)), .val (.ref d), .val (.int (2 : Int32)), .val (.int (5 : Int32)), .val (.int (1 : Int32)), .val (.int (gb 1))] []))
  refine Go.of (fun _ q => XS.iinc X2.here hx rfl (hb hby d6_38) rfl (l' := #[.val (.ref b), .val (.int (2 : Int32)), .val (.ref d), .val (.int (2 : Int32)), .val (.int (5 : Int32)), .val (.int (2 : Int32)), .val (.int (gb 1))]) rfl q) ?_
  show Go _ _ _ _ _ _ _ (T2.setTop (mkF m 41 #[.val (.ref b), .val (.int (2 : Int32)), .val (.ref d), .val (.int (2 : Int32)), .val (.int (5 : Int32)), .val (.int (2 : Int32)), .val (.int (gb 1))] []))
  refine Go.of (fun _ q => XS.goto X2.here hx rfl (pc0 := 41) (pc' := 3) rfl (hb hby d6_41) (by decide) (by decide) q) ?_
  show Go _ _ _ _ _ _ _ (T2.setTop (mkF m 3 #[.val (.ref b), .val (.int (2 : Int32)), .val (.ref d), .val (.int (2 : Int32)), .val (.int (5 : Int32)), .val (.int (2 : Int32)), .val (.int (gb 1))] []))
  refine Go.of (fun _ q => XS.iload X2.here hx rfl (hb hby d6_3) rfl q) ?_
  show Go _ _ _ _ _ _ _ (T2.setTop (mkF m 5 #[.val (.ref b), .val (.int (2 : Int32)), .val (.ref d), .val (.int (2 : Int32)), .val (.int (5 : Int32)), .val (.int (2 : Int32)), .val (.int (gb 1))] [(.int (2 : Int32))]))
  refine Go.of (fun _ q => XS.iload X2.here hx rfl (hb hby d6_5) rfl q) ?_
  show Go _ _ _ _ _ _ _ (T2.setTop (mkF m 7 #[.val (.ref b), .val (.int (2 : Int32)), .val (.ref d), .val (.int (2 : Int32)), .val (.int (5 : Int32)), .val (.int (2 : Int32)), .val (.int (gb 1))] [(.int (5 : Int32)), (.int (2 : Int32))]))
  refine Go.of (fun _ q => XS.icmpNo X2.here hx rfl (hb hby d6_7) rfl (tlt (by decide)).2.1 q) ?_
  show Go _ _ _ _ _ _ _ (T2.setTop (mkF m 10 #[.val (.ref b), .val (.int (2 : Int32)), .val (.ref d), .val (.int (2 : Int32)), .val (.int (5 : Int32)), .val (.int (2 : Int32)), .val (.int (gb 1))] []))
  refine Go.of (fun _ q => XS.aloadN X2.here hx rfl (hb hby d6_10) rfl rfl q) ?_
  show Go _ _ _ _ _ _ _ (T2.setTop (mkF m 11 #[.val (.ref b), .val (.int (2 : Int32)), .val (.ref d), .val (.int (2 : Int32)), .val (.int (5 : Int32)), .val (.int (2 : Int32)), .val (.int (gb 1))] [(.ref b)]))
  refine Go.of (fun _ q => XS.iloadN X2.here hx rfl (hb hby d6_11) rfl q) ?_
  show Go _ _ _ _ _ _ _ (T2.setTop (mkF m 12 #[.val (.ref b), .val (.int (2 : Int32)), .val (.ref d), .val (.int (2 : Int32)), .val (.int (5 : Int32)), .val (.int (2 : Int32)), .val (.int (gb 1))] [(.int (2 : Int32)), (.ref b)]))
  refine Go.of (fun _ q => AF.caload A_b X2 hx hZ e2 ⟨rfl, by decide, by decide⟩ (v := (.int (gb 2))) rfl (g := (mkF m 12 #[.val (.ref b), .val (.int (2 : Int32)), .val (.ref d), .val (.int (2 : Int32)), .val (.int (5 : Int32)), .val (.int (2 : Int32)), .val (.int (gb 1))] [(.int (2 : Int32)), (.ref b)])) rfl rfl (hb hby d6_12) q) ?_
  show Go _ _ _ _ _ _ _ (T2.setTop (mkF m 13 #[.val (.ref b), .val (.int (2 : Int32)), .val (.ref d), .val (.int (2 : Int32)), .val (.int (5 : Int32)), .val (.int (2 : Int32)), .val (.int (gb 1))] [(.int (gb 2))]))
  refine Go.of (fun _ q => XS.istore X2.here hx rfl (hb hby d6_13) rfl (l' := #[.val (.ref b), .val (.int (2 : Int32)), .val (.ref d), .val (.int (2 : Int32)), .val (.int (5 : Int32)), .val (.int (2 : Int32)), .val (.int (gb 2))]) rfl q) ?_
  show Go _ _ _ _ _ _ _ (T2.setTop (mkF m 15 #[.val (.ref b), .val (.int (2 : Int32)), .val (.ref d), .val (.int (2 : Int32)), .val (.int (5 : Int32)), .val (.int (2 : Int32)), .val (.int (gb 2))] []))
  refine Go.of (fun _ q => XS.iload X2.here hx rfl (hb hby d6_15) rfl q) ?_
  show Go _ _ _ _ _ _ _ (T2.setTop (mkF m 17 #[.val (.ref b), .val (.int (2 : Int32)), .val (.ref d), .val (.int (2 : Int32)), .val (.int (5 : Int32)), .val (.int (2 : Int32)), .val (.int (gb 2))] [(.int (gb 2))]))
  refine Go.of (fun _ q => XS.sipush X2.here hx rfl (hb hby d6_17) q) ?_
  show Go _ _ _ _ _ _ _ (T2.setTop (mkF m 20 #[.val (.ref b), .val (.int (2 : Int32)), .val (.ref d), .val (.int (2 : Int32)), .val (.int (5 : Int32)), .val (.int (2 : Int32)), .val (.int (gb 2))] [(.int (255 : Int32)), (.int (gb 2))]))
  refine Go.of (fun _ q => XS.icmpYes X2.here hx rfl (pc0 := 20) (pc' := 26) rfl (hb hby d6_20) rfl (flt (hg 2 (by decide))).2.2.2 (by decide) (by decide) q) ?_
  show Go _ _ _ _ _ _ _ (T2.setTop (mkF m 26 #[.val (.ref b), .val (.int (2 : Int32)), .val (.ref d), .val (.int (2 : Int32)), .val (.int (5 : Int32)), .val (.int (2 : Int32)), .val (.int (gb 2))] []))
  refine Go.of (fun _ q => XS.aloadN X2.here hx rfl (hb hby d6_26) rfl rfl q) ?_
  show Go _ _ _ _ _ _ _ (T2.setTop (mkF m 27 #[.val (.ref b), .val (.int (2 : Int32)), .val (.ref d), .val (.int (2 : Int32)), .val (.int (5 : Int32)), .val (.int (2 : Int32)), .val (.int (gb 2))] [(.ref d)]))
  refine Go.of (fun _ q => XS.iloadN X2.here hx rfl (hb hby d6_27) rfl q) ?_
  show Go _ _ _ _ _ _ _ (T2.setTop (mkF m 28 #[.val (.ref b), .val (.int (2 : Int32)), .val (.ref d), .val (.int (2 : Int32)), .val (.int (5 : Int32)), .val (.int (2 : Int32)), .val (.int (gb 2))] [(.int (2 : Int32)), (.ref d)]))
  refine Go.of (fun _ q => XS.iload X2.here hx rfl (hb hby d6_28) rfl q) ?_
  show Go _ _ _ _ _ _ _ (T2.setTop (mkF m 30 #[.val (.ref b), .val (.int (2 : Int32)), .val (.ref d), .val (.int (2 : Int32)), .val (.int (5 : Int32)), .val (.int (2 : Int32)), .val (.int (gb 2))] [(.int (gb 2)), (.int (2 : Int32)), (.ref d)]))
  refine Go.of (fun _ q => XS.i2b X2.here hx rfl (hb hby d6_30) rfl q) ?_
  show Go _ _ _ _ _ _ _ (T2.setTop (mkF m 31 #[.val (.ref b), .val (.int (2 : Int32)), .val (.ref d), .val (.int (2 : Int32)), .val (.int (5 : Int32)), .val (.int (2 : Int32)), .val (.int (gb 2))] [(.int ((gb 2).toInt8.toInt32)), (.int (2 : Int32)), (.ref d)]))
  obtain ⟨T3, h3, X3, e3, W3, A3', st3⟩ := AF.bastore A_d X2 hx hZ e2 (i := 2) ⟨rfl, by decide, by decide⟩ (g := (mkF m 31 #[.val (.ref b), .val (.int (2 : Int32)), .val (.ref d), .val (.int (2 : Int32)), .val (.int (5 : Int32)), .val (.int (2 : Int32)), .val (.int (gb 2))] [(.int ((gb 2).toInt8.toInt32)), (.int (2 : Int32)), (.ref d)])) rfl rfl (hb hby d6_31)
  refine Go.of st3 ?_
  have Zs := Nat.le_trans Zs (Nat.le_of_eq W3.size.symm)
  have Kp := Kp.wr W3 (Or.inl (List.mem_of_getElem? (i := 0) rfl))
  have A_b := A_b.other W3 ne_b_d
  have A_d : AF Z h3 d kd .byte 5 (fun i => .int ((upI (upI (upI gd 0 (((gb 0).toInt8.toInt32).toInt8.toInt32)) 1 (((gb 1).toInt8.toInt32).toInt8.toInt32)) 2 (((gb 2).toInt8.toInt32).toInt8.toInt32)) i)) := A3'.toI
  have N3 := Fr.snoc X3 N2 g_d
  show Go _ _ _ _ _ _ _ (T3.setTop (mkF m 32 #[.val (.ref b), .val (.int (2 : Int32)), .val (.ref d), .val (.int (2 : Int32)), .val (.int (5 : Int32)), .val (.int (2 : Int32)), .val (.int (gb 2))] []))
  refine Go.of (fun _ q => XS.iinc X3.here hx rfl (hb hby d6_32) rfl (l' := #[.val (.ref b), .val (.int (3 : Int32)), .val (.ref d), .val (.int (2 : Int32)), .val (.int (5 : Int32)), .val (.int (2 : Int32)), .val (.int (gb 2))]) rfl q) ?_
  show Go _ _ _ _ _ _ _ (T3.setTop (mkF m 35 #[.val (.ref b), .val (.int (3 : Int32)), .val (.ref d), .val (.int (2 : Int32)), .val (.int (5 : Int32)), .val (.int (2 : Int32)), .val (.int (gb 2))] []))
  refine Go.of (fun _ q => XS.iinc X3.here hx rfl (hb hby d6_35) rfl (l' := #[.val (.ref b), .val (.int (3 : Int32)), .val (.ref d), .val (.int (3 : Int32)), .val (.int (5 : Int32)), .val (.int (2 : Int32)), .val (.int (gb 2))]) rfl q) ?_
  show Go _ _ _ _ _ _ _ (T3.setTop (mkF m 38 #[.val (.ref b), .val (.int (3 : Int32)), .val (.ref d), .val (.int (3 : Int32)), .val (.int (5 : Int32)), .val (.int (2 : Int32)), .val (.int (gb 2))] []))
  refine Go.of (fun _ q => XS.iinc X3.here hx rfl (hb hby d6_38) rfl (l' := #[.val (.ref b), .val (.int (3 : Int32)), .val (.ref d), .val (.int (3 : Int32)), .val (.int (5 : Int32)), .val (.int (3 : Int32)), .val (.int (gb 2))]) rfl q) ?_
  show Go _ _ _ _ _ _ _ (T3.setTop (mkF m 41 #[.val (.ref b), .val (.int (3 : Int32)), .val (.ref d), .val (.int (3 : Int32)), .val (.int (5 : Int32)), .val (.int (3 : Int32)), .val (.int (gb 2))] []))
  refine Go.of (fun _ q => XS.goto X3.here hx rfl (pc0 := 41) (pc' := 3) rfl (hb hby d6_41) (by decide) (by decide) q) ?_
  show Go _ _ _ _ _ _ _ (T3.setTop (mkF m 3 #[.val (.ref b), .val (.int (3 : Int32)), .val (.ref d), .val (.int (3 : Int32)), .val (.int (5 : Int32)), .val (.int (3 : Int32)), .val (.int (gb 2))] []))
  refine Go.of (fun _ q => XS.iload X3.here hx rfl (hb hby d6_3) rfl q) ?_
  show Go _ _ _ _ _ _ _ (T3.setTop (mkF m 5 #[.val (.ref b), .val (.int (3 : Int32)), .val (.ref d), .val (.int (3 : Int32)), .val (.int (5 : Int32)), .val (.int (3 : Int32)), .val (.int (gb 2))] [(.int (3 : Int32))]))
  refine Go.of (fun _ q => XS.iload X3.here hx rfl (hb hby d6_5) rfl q) ?_
  show Go _ _ _ _ _ _ _ (T3.setTop (mkF m 7 #[.val (.ref b), .val (.int (3 : Int32)), .val (.ref d), .val (.int (3 : Int32)), .val (.int (5 : Int32)), .val (.int (3 : Int32)), .val (.int (gb 2))] [(.int (5 : Int32)), (.int (3 : Int32))]))
  refine Go.of (fun _ q => XS.icmpNo X3.here hx rfl (hb hby d6_7) rfl (tlt (by decide)).2.1 q) ?_
  show Go _ _ _ _ _ _ _ (T3.setTop (mkF m 10 #[.val (.ref b), .val (.int (3 : Int32)), .val (.ref d), .val (.int (3 : Int32)), .val (.int (5 : Int32)), .val (.int (3 : Int32)), .val (.int (gb 2))] []))
  refine Go.of (fun _ q => XS.aloadN X3.here hx rfl (hb hby d6_10) rfl rfl q) ?_
  show Go _ _ _ _ _ _ _ (T3.setTop (mkF m 11 #[.val (.ref b), .val (.int (3 : Int32)), .val (.ref d), .val (.int (3 : Int32)), .val (.int (5 : Int32)), .val (.int (3 : Int32)), .val (.int (gb 2))] [(.ref b)]))
  refine Go.of (fun _ q => XS.iloadN X3.here hx rfl (hb hby d6_11) rfl q) ?_
  show Go _ _ _ _ _ _ _ (T3.setTop (mkF m 12 #[.val (.ref b), .val (.int (3 : Int32)), .val (.ref d), .val (.int (3 : Int32)), .val (.int (5 : Int32)), .val (.int (3 : Int32)), .val (.int (gb 2))] [(.int (3 : Int32)), (.ref b)]))
  refine Go.of (fun _ q => AF.caload A_b X3 hx hZ e3 ⟨rfl, by decide, by decide⟩ (v := (.int (gb 3))) rfl (g := (mkF m 12 #[.val (.ref b), .val (.int (3 : Int32)), .val (.ref d), .val (.int (3 : Int32)), .val (.int (5 : Int32)), .val (.int (3 : Int32)), .val (.int (gb 2))] [(.int (3 : Int32)), (.ref b)])) rfl rfl (hb hby d6_12) q) ?_
  show Go _ _ _ _ _ _ _ (T3.setTop (mkF m 13 #[.val (.ref b), .val (.int (3 : Int32)), .val (.ref d), .val (.int (3 : Int32)), .val (.int (5 : Int32)), .val (.int (3 : Int32)), .val (.int (gb 2))] [(.int (gb 3))]))
  refine Go.of (fun _ q => XS.istore X3.here hx rfl (hb hby d6_13) rfl (l' := #[.val (.ref b), .val (.int (3 : Int32)), .val (.ref d), .val (.int (3 : Int32)), .val (.int (5 : Int32)), .val (.int (3 : Int32)), .val (.int (gb 3))]) rfl q) ?_
  show Go _ _ _ _ _ _ _ (T3.setTop (mkF m 15 #[.val (.ref b), .val (.int (3 : Int32)), .val (.ref d), .val (.int (3 : Int32)), .val (.int (5 : Int32)), .val (.int (3 : Int32)), .val (.int (gb 3))] []))
  refine Go.of (fun _ q => XS.iload X3.here hx rfl (hb hby d6_15) rfl q) ?_
  show Go _ _ _ _ _ _ _ (T3.setTop (mkF m 17 #[.val (.ref b), .val (.int (3 : Int32)), .val (.ref d), .val (.int (3 : Int32)), .val (.int (5 : Int32)), .val (.int (3 : Int32)), .val (.int (gb 3))] [(.int (gb 3))]))
  refine Go.of (fun _ q => XS.sipush X3.here hx rfl (hb hby d6_17) q) ?_
  show Go _ _ _ _ _ _ _ (T3.setTop (mkF m 20 #[.val (.ref b), .val (.int (3 : Int32)), .val (.ref d), .val (.int (3 : Int32)), .val (.int (5 : Int32)), .val (.int (3 : Int32)), .val (.int (gb 3))] [(.int (255 : Int32)), (.int (gb 3))]))
  refine Go.of (fun _ q => XS.icmpYes X3.here hx rfl (pc0 := 20) (pc' := 26) rfl (hb hby d6_20) rfl (flt (hg 3 (by decide))).2.2.2 (by decide) (by decide) q) ?_
  show Go _ _ _ _ _ _ _ (T3.setTop (mkF m 26 #[.val (.ref b), .val (.int (3 : Int32)), .val (.ref d), .val (.int (3 : Int32)), .val (.int (5 : Int32)), .val (.int (3 : Int32)), .val (.int (gb 3))] []))
  refine Go.of (fun _ q => XS.aloadN X3.here hx rfl (hb hby d6_26) rfl rfl q) ?_
  show Go _ _ _ _ _ _ _ (T3.setTop (mkF m 27 #[.val (.ref b), .val (.int (3 : Int32)), .val (.ref d), .val (.int (3 : Int32)), .val (.int (5 : Int32)), .val (.int (3 : Int32)), .val (.int (gb 3))] [(.ref d)]))
  refine Go.of (fun _ q => XS.iloadN X3.here hx rfl (hb hby d6_27) rfl q) ?_
  show Go _ _ _ _ _ _ _ (T3.setTop (mkF m 28 #[.val (.ref b), .val (.int (3 : Int32)), .val (.ref d), .val (.int (3 : Int32)), .val (.int (5 : Int32)), .val (.int (3 : Int32)), .val (.int (gb 3))] [(.int (3 : Int32)), (.ref d)]))
  refine Go.of (fun _ q => XS.iload X3.here hx rfl (hb hby d6_28) rfl q) ?_
  show Go _ _ _ _ _ _ _ (T3.setTop (mkF m 30 #[.val (.ref b), .val (.int (3 : Int32)), .val (.ref d), .val (.int (3 : Int32)), .val (.int (5 : Int32)), .val (.int (3 : Int32)), .val (.int (gb 3))] [(.int (gb 3)), (.int (3 : Int32)), (.ref d)]))
  refine Go.of (fun _ q => XS.i2b X3.here hx rfl (hb hby d6_30) rfl q) ?_
  show Go _ _ _ _ _ _ _ (T3.setTop (mkF m 31 #[.val (.ref b), .val (.int (3 : Int32)), .val (.ref d), .val (.int (3 : Int32)), .val (.int (5 : Int32)), .val (.int (3 : Int32)), .val (.int (gb 3))] [(.int ((gb 3).toInt8.toInt32)), (.int (3 : Int32)), (.ref d)]))
  obtain ⟨T4, h4, X4, e4, W4, A4', st4⟩ := AF.bastore A_d X3 hx hZ e3 (i := 3) ⟨rfl, by decide, by decide⟩ (g := (mkF m 31 #[.val (.ref b), .val (.int (3 : Int32)), .val (.ref d), .val (.int (3 : Int32)), .val (.int (5 : Int32)), .val (.int (3 : Int32)), .val (.int (gb 3))] [(.int ((gb 3).toInt8.toInt32)), (.int (3 : Int32)), (.ref d)])) rfl rfl (hb hby d6_31)
  refine Go.of st4 ?_
  have Zs := Nat.le_trans Zs (Nat.le_of_eq W4.size.symm)
  have Kp := Kp.wr W4 (Or.inl (List.mem_of_getElem? (i := 0) rfl))
  have A_b := A_b.other W4 ne_b_d
  have A_d : AF Z h4 d kd .byte 5 (fun i => .int ((upI (upI (upI (upI gd 0 (((gb 0).toInt8.toInt32).toInt8.toInt32)) 1 (((gb 1).toInt8.toInt32).toInt8.toInt32)) 2 (((gb 2).toInt8.toInt32).toInt8.toInt32)) 3 (((gb 3).toInt8.toInt32).toInt8.toInt32)) i)) := A4'.toI
  have N4 := Fr.snoc X4 N3 g_d
  show Go _ _ _ _ _ _ _ (T4.setTop (mkF m 32 #[.val (.ref b), .val (.int (3 : Int32)), .val (.ref d), .val (.int (3 : Int32)), .val (.int (5 : Int32)), .val (.int (3 : Int32)), .val (.int (gb 3))] []))
  refine Go.of (fun _ q => XS.iinc X4.here hx rfl (hb hby d6_32) rfl (l' := #[.val (.ref b), .val (.int (4 : Int32)), .val (.ref d), .val (.int (3 : Int32)), .val (.int (5 : Int32)), .val (.int (3 : Int32)), .val (.int (gb 3))]) rfl q) ?_
  show Go _ _ _ _ _ _ _ (T4.setTop (mkF m 35 #[.val (.ref b), .val (.int (4 : Int32)), .val (.ref d), .val (.int (3 : Int32)), .val (.int (5 : Int32)), .val (.int (3 : Int32)), .val (.int (gb 3))] []))
  refine Go.of (fun _ q => XS.iinc X4.here hx rfl (hb hby d6_35) rfl (l' := #[.val (.ref b), .val (.int (4 : Int32)), .val (.ref d), .val (.int (4 : Int32)), .val (.int (5 : Int32)), .val (.int (3 : Int32)), .val (.int (gb 3))]) rfl q) ?_
  show Go _ _ _ _ _ _ _ (T4.setTop (mkF m 38 #[.val (.ref b), .val (.int (4 : Int32)), .val (.ref d), .val (.int (4 : Int32)), .val (.int (5 : Int32)), .val (.int (3 : Int32)), .val (.int (gb 3))] []))
  refine Go.of (fun _ q => XS.iinc X4.here hx rfl (hb hby d6_38) rfl (l' := #[.val (.ref b), .val (.int (4 : Int32)), .val (.ref d), .val (.int (4 : Int32)), .val (.int (5 : Int32)), .val (.int (4 : Int32)), .val (.int (gb 3))]) rfl q) ?_
  show Go _ _ _ _ _ _ _ (T4.setTop (mkF m 41 #[.val (.ref b), .val (.int (4 : Int32)), .val (.ref d), .val (.int (4 : Int32)), .val (.int (5 : Int32)), .val (.int (4 : Int32)), .val (.int (gb 3))] []))
  refine Go.of (fun _ q => XS.goto X4.here hx rfl (pc0 := 41) (pc' := 3) rfl (hb hby d6_41) (by decide) (by decide) q) ?_
  show Go _ _ _ _ _ _ _ (T4.setTop (mkF m 3 #[.val (.ref b), .val (.int (4 : Int32)), .val (.ref d), .val (.int (4 : Int32)), .val (.int (5 : Int32)), .val (.int (4 : Int32)), .val (.int (gb 3))] []))
  refine Go.of (fun _ q => XS.iload X4.here hx rfl (hb hby d6_3) rfl q) ?_
  show Go _ _ _ _ _ _ _ (T4.setTop (mkF m 5 #[.val (.ref b), .val (.int (4 : Int32)), .val (.ref d), .val (.int (4 : Int32)), .val (.int (5 : Int32)), .val (.int (4 : Int32)), .val (.int (gb 3))] [(.int (4 : Int32))]))
  refine Go.of (fun _ q => XS.iload X4.here hx rfl (hb hby d6_5) rfl q) ?_
  show Go _ _ _ _ _ _ _ (T4.setTop (mkF m 7 #[.val (.ref b), .val (.int (4 : Int32)), .val (.ref d), .val (.int (4 : Int32)), .val (.int (5 : Int32)), .val (.int (4 : Int32)), .val (.int (gb 3))] [(.int (5 : Int32)), (.int (4 : Int32))]))
  refine Go.of (fun _ q => XS.icmpNo X4.here hx rfl (hb hby d6_7) rfl (tlt (by decide)).2.1 q) ?_
  show Go _ _ _ _ _ _ _ (T4.setTop (mkF m 10 #[.val (.ref b), .val (.int (4 : Int32)), .val (.ref d), .val (.int (4 : Int32)), .val (.int (5 : Int32)), .val (.int (4 : Int32)), .val (.int (gb 3))] []))
  refine Go.of (fun _ q => XS.aloadN X4.here hx rfl (hb hby d6_10) rfl rfl q) ?_
  show Go _ _ _ _ _ _ _ (T4.setTop (mkF m 11 #[.val (.ref b), .val (.int (4 : Int32)), .val (.ref d), .val (.int (4 : Int32)), .val (.int (5 : Int32)), .val (.int (4 : Int32)), .val (.int (gb 3))] [(.ref b)]))
  refine Go.of (fun _ q => XS.iloadN X4.here hx rfl (hb hby d6_11) rfl q) ?_
  show Go _ _ _ _ _ _ _ (T4.setTop (mkF m 12 #[.val (.ref b), .val (.int (4 : Int32)), .val (.ref d), .val (.int (4 : Int32)), .val (.int (5 : Int32)), .val (.int (4 : Int32)), .val (.int (gb 3))] [(.int (4 : Int32)), (.ref b)]))
  refine Go.of (fun _ q => AF.caload A_b X4 hx hZ e4 ⟨rfl, by decide, by decide⟩ (v := (.int (gb 4))) rfl (g := (mkF m 12 #[.val (.ref b), .val (.int (4 : Int32)), .val (.ref d), .val (.int (4 : Int32)), .val (.int (5 : Int32)), .val (.int (4 : Int32)), .val (.int (gb 3))] [(.int (4 : Int32)), (.ref b)])) rfl rfl (hb hby d6_12) q) ?_
  show Go _ _ _ _ _ _ _ (T4.setTop (mkF m 13 #[.val (.ref b), .val (.int (4 : Int32)), .val (.ref d), .val (.int (4 : Int32)), .val (.int (5 : Int32)), .val (.int (4 : Int32)), .val (.int (gb 3))] [(.int (gb 4))]))
  refine Go.of (fun _ q => XS.istore X4.here hx rfl (hb hby d6_13) rfl (l' := #[.val (.ref b), .val (.int (4 : Int32)), .val (.ref d), .val (.int (4 : Int32)), .val (.int (5 : Int32)), .val (.int (4 : Int32)), .val (.int (gb 4))]) rfl q) ?_
  show Go _ _ _ _ _ _ _ (T4.setTop (mkF m 15 #[.val (.ref b), .val (.int (4 : Int32)), .val (.ref d), .val (.int (4 : Int32)), .val (.int (5 : Int32)), .val (.int (4 : Int32)), .val (.int (gb 4))] []))
  refine Go.of (fun _ q => XS.iload X4.here hx rfl (hb hby d6_15) rfl q) ?_
  show Go _ _ _ _ _ _ _ (T4.setTop (mkF m 17 #[.val (.ref b), .val (.int (4 : Int32)), .val (.ref d), .val (.int (4 : Int32)), .val (.int (5 : Int32)), .val (.int (4 : Int32)), .val (.int (gb 4))] [(.int (gb 4))]))
  refine Go.of (fun _ q => XS.sipush X4.here hx rfl (hb hby d6_17) q) ?_
  show Go _ _ _ _ _ _ _ (T4.setTop (mkF m 20 #[.val (.ref b), .val (.int (4 : Int32)), .val (.ref d), .val (.int (4 : Int32)), .val (.int (5 : Int32)), .val (.int (4 : Int32)), .val (.int (gb 4))] [(.int (255 : Int32)), (.int (gb 4))]))
  refine Go.of (fun _ q => XS.icmpYes X4.here hx rfl (pc0 := 20) (pc' := 26) rfl (hb hby d6_20) rfl (flt (hg 4 (by decide))).2.2.2 (by decide) (by decide) q) ?_
  show Go _ _ _ _ _ _ _ (T4.setTop (mkF m 26 #[.val (.ref b), .val (.int (4 : Int32)), .val (.ref d), .val (.int (4 : Int32)), .val (.int (5 : Int32)), .val (.int (4 : Int32)), .val (.int (gb 4))] []))
  refine Go.of (fun _ q => XS.aloadN X4.here hx rfl (hb hby d6_26) rfl rfl q) ?_
  show Go _ _ _ _ _ _ _ (T4.setTop (mkF m 27 #[.val (.ref b), .val (.int (4 : Int32)), .val (.ref d), .val (.int (4 : Int32)), .val (.int (5 : Int32)), .val (.int (4 : Int32)), .val (.int (gb 4))] [(.ref d)]))
  refine Go.of (fun _ q => XS.iloadN X4.here hx rfl (hb hby d6_27) rfl q) ?_
  show Go _ _ _ _ _ _ _ (T4.setTop (mkF m 28 #[.val (.ref b), .val (.int (4 : Int32)), .val (.ref d), .val (.int (4 : Int32)), .val (.int (5 : Int32)), .val (.int (4 : Int32)), .val (.int (gb 4))] [(.int (4 : Int32)), (.ref d)]))
  refine Go.of (fun _ q => XS.iload X4.here hx rfl (hb hby d6_28) rfl q) ?_
  show Go _ _ _ _ _ _ _ (T4.setTop (mkF m 30 #[.val (.ref b), .val (.int (4 : Int32)), .val (.ref d), .val (.int (4 : Int32)), .val (.int (5 : Int32)), .val (.int (4 : Int32)), .val (.int (gb 4))] [(.int (gb 4)), (.int (4 : Int32)), (.ref d)]))
  refine Go.of (fun _ q => XS.i2b X4.here hx rfl (hb hby d6_30) rfl q) ?_
  show Go _ _ _ _ _ _ _ (T4.setTop (mkF m 31 #[.val (.ref b), .val (.int (4 : Int32)), .val (.ref d), .val (.int (4 : Int32)), .val (.int (5 : Int32)), .val (.int (4 : Int32)), .val (.int (gb 4))] [(.int ((gb 4).toInt8.toInt32)), (.int (4 : Int32)), (.ref d)]))
  obtain ⟨T5, h5, X5, e5, W5, A5', st5⟩ := AF.bastore A_d X4 hx hZ e4 (i := 4) ⟨rfl, by decide, by decide⟩ (g := (mkF m 31 #[.val (.ref b), .val (.int (4 : Int32)), .val (.ref d), .val (.int (4 : Int32)), .val (.int (5 : Int32)), .val (.int (4 : Int32)), .val (.int (gb 4))] [(.int ((gb 4).toInt8.toInt32)), (.int (4 : Int32)), (.ref d)])) rfl rfl (hb hby d6_31)
  refine Go.of st5 ?_
  have Zs := Nat.le_trans Zs (Nat.le_of_eq W5.size.symm)
  have Kp := Kp.wr W5 (Or.inl (List.mem_of_getElem? (i := 0) rfl))
  have A_b := A_b.other W5 ne_b_d
  have A_d : AF Z h5 d kd .byte 5 (fun i => .int ((upI (upI (upI (upI (upI gd 0 (((gb 0).toInt8.toInt32).toInt8.toInt32)) 1 (((gb 1).toInt8.toInt32).toInt8.toInt32)) 2 (((gb 2).toInt8.toInt32).toInt8.toInt32)) 3 (((gb 3).toInt8.toInt32).toInt8.toInt32)) 4 (((gb 4).toInt8.toInt32).toInt8.toInt32)) i)) := A5'.toI
  have N5 := Fr.snoc X5 N4 g_d
  show Go _ _ _ _ _ _ _ (T5.setTop (mkF m 32 #[.val (.ref b), .val (.int (4 : Int32)), .val (.ref d), .val (.int (4 : Int32)), .val (.int (5 : Int32)), .val (.int (4 : Int32)), .val (.int (gb 4))] []))
  refine Go.of (fun _ q => XS.iinc X5.here hx rfl (hb hby d6_32) rfl (l' := #[.val (.ref b), .val (.int (5 : Int32)), .val (.ref d), .val (.int (4 : Int32)), .val (.int (5 : Int32)), .val (.int (4 : Int32)), .val (.int (gb 4))]) rfl q) ?_
  show Go _ _ _ _ _ _ _ (T5.setTop (mkF m 35 #[.val (.ref b), .val (.int (5 : Int32)), .val (.ref d), .val (.int (4 : Int32)), .val (.int (5 : Int32)), .val (.int (4 : Int32)), .val (.int (gb 4))] []))
  refine Go.of (fun _ q => XS.iinc X5.here hx rfl (hb hby d6_35) rfl (l' := #[.val (.ref b), .val (.int (5 : Int32)), .val (.ref d), .val (.int (5 : Int32)), .val (.int (5 : Int32)), .val (.int (4 : Int32)), .val (.int (gb 4))]) rfl q) ?_
  show Go _ _ _ _ _ _ _ (T5.setTop (mkF m 38 #[.val (.ref b), .val (.int (5 : Int32)), .val (.ref d), .val (.int (5 : Int32)), .val (.int (5 : Int32)), .val (.int (4 : Int32)), .val (.int (gb 4))] []))
  refine Go.of (fun _ q => XS.iinc X5.here hx rfl (hb hby d6_38) rfl (l' := #[.val (.ref b), .val (.int (5 : Int32)), .val (.ref d), .val (.int (5 : Int32)), .val (.int (5 : Int32)), .val (.int (5 : Int32)), .val (.int (gb 4))]) rfl q) ?_
  show Go _ _ _ _ _ _ _ (T5.setTop (mkF m 41 #[.val (.ref b), .val (.int (5 : Int32)), .val (.ref d), .val (.int (5 : Int32)), .val (.int (5 : Int32)), .val (.int (5 : Int32)), .val (.int (gb 4))] []))
  refine Go.of (fun _ q => XS.goto X5.here hx rfl (pc0 := 41) (pc' := 3) rfl (hb hby d6_41) (by decide) (by decide) q) ?_
  show Go _ _ _ _ _ _ _ (T5.setTop (mkF m 3 #[.val (.ref b), .val (.int (5 : Int32)), .val (.ref d), .val (.int (5 : Int32)), .val (.int (5 : Int32)), .val (.int (5 : Int32)), .val (.int (gb 4))] []))
  refine Go.of (fun _ q => XS.iload X5.here hx rfl (hb hby d6_3) rfl q) ?_
  show Go _ _ _ _ _ _ _ (T5.setTop (mkF m 5 #[.val (.ref b), .val (.int (5 : Int32)), .val (.ref d), .val (.int (5 : Int32)), .val (.int (5 : Int32)), .val (.int (5 : Int32)), .val (.int (gb 4))] [(.int (5 : Int32))]))
  refine Go.of (fun _ q => XS.iload X5.here hx rfl (hb hby d6_5) rfl q) ?_
  show Go _ _ _ _ _ _ _ (T5.setTop (mkF m 7 #[.val (.ref b), .val (.int (5 : Int32)), .val (.ref d), .val (.int (5 : Int32)), .val (.int (5 : Int32)), .val (.int (5 : Int32)), .val (.int (gb 4))] [(.int (5 : Int32)), (.int (5 : Int32))]))
  refine Go.of (fun _ q => XS.icmpYes X5.here hx rfl (pc0 := 7) (pc' := 44) rfl (hb hby d6_7) rfl (flt (by decide)).2.1 (by decide) (by decide) q) ?_
  show Go _ _ _ _ _ _ _ (T5.setTop (mkF m 44 #[.val (.ref b), .val (.int (5 : Int32)), .val (.ref d), .val (.int (5 : Int32)), .val (.int (5 : Int32)), .val (.int (5 : Int32)), .val (.int (gb 4))] []))
  refine Go.of (fun _ q => XS.iload X5.here hx rfl (hb hby d6_44) rfl q) ?_
  show Go _ _ _ _ _ _ _ (T5.setTop (mkF m 46 #[.val (.ref b), .val (.int (5 : Int32)), .val (.ref d), .val (.int (5 : Int32)), .val (.int (5 : Int32)), .val (.int (5 : Int32)), .val (.int (gb 4))] [(.int (5 : Int32))]))
  refine Go.retI X5 hx hlk hret (hb hby d6_46) (by decide) (by decide) ?_
  rw [e5]
  exact ⟨rfl, N5, Kp, (AF.cast A_d (fun i hi => by rcases (show i = 0 ∨ i = 1 ∨ i = 2 ∨ i = 3 ∨ i = 4 by omega) with rfl | rfl | rfl | rfl | rfl <;> simp [upI, own_by]))⟩
theorem ef_5_s5 (m : MethodId) (b : Addr) : entryFrame m #[(.ref b), (.int (0 : Int32)), (.int (5 : Int32))] 6 = mkF m 0 #[.val (.ref b), .val (.int (0 : Int32)), .val (.int (5 : Int32)), .unset, .unset, .unset] [] := by first | (simp [entryFrame, mkF, argsToLocals, Value.category]; done) | rfl
def Q5_s5 (Z : State) (b : Addr) (kb : ClassId) (gb : Nat → Int32) (h0 : Heap) (n0 : Nat) (v : Option Value) (h : Heap) (L : List Loc) : Prop := ∃ d : Addr, ∃ kd : ClassId, v = some (.ref d) ∧ Fr n0 L ∧ Keep h0 h [] ∧ h0.size ≤ d ∧ AF Z h d kd .byte 5 (fun i => .int ((fun i => own_by (gb i)) i))
set_option maxRecDepth 65536 in
set_option maxHeartbeats 40000000 in
theorem rm5_s5 (l : Launch) (Z : State) (a0 : Array Value) (hw : ∀ d ∈ tables_1, d.before a0 Z = true) (b : Addr) (kb : ClassId) (gb : Nat → Int32) (h0 : Heap) (n0 : Nat) (Zs : n0 ≤ h0.size) (A_b : AF Z h0 b kb .char 5 (fun i => .int (gb i))) (hg : ∀ i, i < 5 → ¬ (255 : Int32) < gb i) :
    Con l Z (⟨"java/lang/StringUTF16", "compress", "([CII)[B"⟩ : MethodName) jdk_52_method_16_code 6 (some (.array .byte)) ({ frames := 1, cells := 1, slots := 5, locals := 18 } : Room) #[(.ref b), (.int (0 : Int32)), (.int (5 : Int32))] h0 (Q5_s5 Z b kb gb h0 n0) := by
  refine Con.intro (plainFor_of_name pn5) (fun m => ef_5_s5 m b) ?_
  intro p e s m below meth c s₁ hx hby hml0 hZ hown hnm hret hlk X0 e0
  have hml : c.maxLocals = 6 := hml0
  have N0 := Fr.nil n0
  have Kp : Keep h0 h0 [] := Keep.refl h0 _
  show Go _ _ _ _ _ _ _ (s₁.setTop (mkF m 0 #[.val (.ref b), .val (.int (0 : Int32)), .val (.int (5 : Int32)), .unset, .unset, .unset] []))
  refine Go.of (fun _ q => XS.iloadN X0.here hx rfl (hb hby d5_0) rfl q) ?_
  show Go _ _ _ _ _ _ _ (s₁.setTop (mkF m 1 #[.val (.ref b), .val (.int (0 : Int32)), .val (.int (5 : Int32)), .unset, .unset, .unset] [(.int (5 : Int32))]))
  obtain ⟨T1, h1, k1, X1, e1, E1, A1, B1, st1⟩ := newPE X0 hx hZ (hw _ (List.mem_of_getElem? (i := 24) rfl)) e0 (g := (mkF m 1 #[.val (.ref b), .val (.int (0 : Int32)), .val (.int (5 : Int32)), .unset, .unset, .unset] [(.int (5 : Int32))])) rfl (hb hby d5_1) rfl (by decide) (cap := 5) (by decide) (by decide) (by decide) (by decide) (ad := "[B") (by decide)
  obtain ⟨d, g1⟩ : ∃ z, z = h0.size := ⟨_, rfl⟩
  rw [← g1] at A1 B1 st1
  refine Go.of st1 ?_
  have g_d : n0 ≤ d := Nat.le_trans Zs (Nat.le_of_eq g1.symm)
  have sz_d : h0.size ≤ d := Nat.le_trans Kp.1 (Nat.le_of_eq g1.symm)
  have ne_b_d : b ≠ d := Nat.ne_of_lt (Nat.lt_of_lt_of_le A_b.lt (Nat.le_of_eq g1.symm))
  have Zs := Nat.le_trans Zs E1.1
  have Kp := Kp.ext E1
  have A_b := A_b.ext E1
  have E_d := B1
  have A_d : AF Z h1 d k1 .byte 5 (fun i => .int ((fun _ => (0 : Int32)) i)) := AF.new A1 (by decide) rfl rfl
  show Go _ _ _ _ _ _ _ (T1.setTop (mkF m 3 #[.val (.ref b), .val (.int (0 : Int32)), .val (.int (5 : Int32)), .unset, .unset, .unset] [(.ref d)]))
  refine Go.of (fun _ q => XS.astoreN X1.here hx rfl (hb hby d5_3) rfl rfl (l' := #[.val (.ref b), .val (.int (0 : Int32)), .val (.int (5 : Int32)), .val (.ref d), .unset, .unset]) rfl q) ?_
  show Go _ _ _ _ _ _ _ (T1.setTop (mkF m 4 #[.val (.ref b), .val (.int (0 : Int32)), .val (.int (5 : Int32)), .val (.ref d), .unset, .unset] []))
  refine Go.of (fun _ q => XS.aloadN X1.here hx rfl (hb hby d5_4) rfl rfl q) ?_
  show Go _ _ _ _ _ _ _ (T1.setTop (mkF m 5 #[.val (.ref b), .val (.int (0 : Int32)), .val (.int (5 : Int32)), .val (.ref d), .unset, .unset] [(.ref b)]))
  refine Go.of (fun _ q => XS.iloadN X1.here hx rfl (hb hby d5_5) rfl q) ?_
  show Go _ _ _ _ _ _ _ (T1.setTop (mkF m 6 #[.val (.ref b), .val (.int (0 : Int32)), .val (.int (5 : Int32)), .val (.ref d), .unset, .unset] [(.int (0 : Int32)), (.ref b)]))
  refine Go.of (fun _ q => XS.aloadN X1.here hx rfl (hb hby d5_6) rfl rfl q) ?_
  show Go _ _ _ _ _ _ _ (T1.setTop (mkF m 7 #[.val (.ref b), .val (.int (0 : Int32)), .val (.int (5 : Int32)), .val (.ref d), .unset, .unset] [(.ref d), (.int (0 : Int32)), (.ref b)]))
  refine Go.of (fun _ q => XS.iconst X1.here hx rfl (hb hby d5_7) q) ?_
  show Go _ _ _ _ _ _ _ (T1.setTop (mkF m 8 #[.val (.ref b), .val (.int (0 : Int32)), .val (.int (5 : Int32)), .val (.ref d), .unset, .unset] [(.int (0 : Int32)), (.ref d), (.int (0 : Int32)), (.ref b)]))
  refine Go.of (fun _ q => XS.iloadN X1.here hx rfl (hb hby d5_8) rfl q) ?_
  show Go _ _ _ _ _ _ _ (T1.setTop (mkF m 9 #[.val (.ref b), .val (.int (0 : Int32)), .val (.int (5 : Int32)), .val (.ref d), .unset, .unset] [(.int (5 : Int32)), (.int (0 : Int32)), (.ref d), (.int (0 : Int32)), (.ref b)]))
  refine Go.static X1 hx hZ (y := (⟨"java/lang/StringUTF16", "compress", "([CI[BII)I"⟩ : MethodName)) (argsL := [(.ref b), (.int (0 : Int32)), (.ref d), (.int (0 : Int32)), (.int (5 : Int32))]) hown (hw _ (List.mem_of_getElem? (i := 25) rfl)) (hw _ (List.mem_of_getElem? (i := 26) rfl)) (hw _ (List.mem_of_getElem? (i := 22) rfl)) (hw _ (List.mem_of_getElem? (i := 27) rfl)) (by decide) 0 e1 (rm6_s5 l Z a0 hw b d kb gb k1 (fun _ => (0 : Int32)) h1 n0 Zs A_b A_d ne_b_d g_d hg) (by decide) (by decide) (by decide) (by decide) (g := (mkF m 9 #[.val (.ref b), .val (.int (0 : Int32)), .val (.int (5 : Int32)), .val (.ref d), .unset, .unset] [(.int (5 : Int32)), (.int (0 : Int32)), (.ref d), (.int (0 : Int32)), (.ref b)])) rfl (by rw [hml]; rfl) (rest := []) (lenOf pd13 rfl) rfl (by show 2 * 0 + _ ≤ _; exact Nat.le_of_eq rfl) (hb hby d5_9) ?_
  intro T2 v2 L2 X2 q2
  obtain ⟨rfl, Nq2, K2, f2_0⟩ := q2
  have N2 := Fr.app N0 Nq2
  have Zs := Nat.le_trans Zs K2.1
  have Kp := Kp.trans K2 (allS (P := fun x => x ∈ [] ∨ h0.size ≤ x) (Or.inr sz_d) all0)
  have A_b := A_b.keep K2 (ninS ne_b_d nin0)
  have E_d := E_d.keep K2
  have A_d := f2_0
  show Go _ _ _ _ _ _ _ (T2.setTop (mkF m 12 #[.val (.ref b), .val (.int (0 : Int32)), .val (.int (5 : Int32)), .val (.ref d), .unset, .unset] [(.int (5 : Int32))]))
  refine Go.of (fun _ q => XS.istore X2.here hx rfl (hb hby d5_12) rfl (l' := #[.val (.ref b), .val (.int (0 : Int32)), .val (.int (5 : Int32)), .val (.ref d), .val (.int (5 : Int32)), .unset]) rfl q) ?_
  show Go _ _ _ _ _ _ _ (T2.setTop (mkF m 14 #[.val (.ref b), .val (.int (0 : Int32)), .val (.int (5 : Int32)), .val (.ref d), .val (.int (5 : Int32)), .unset] []))
  refine Go.of (fun _ q => XS.iload X2.here hx rfl (hb hby d5_14) rfl q) ?_
  show Go _ _ _ _ _ _ _ (T2.setTop (mkF m 16 #[.val (.ref b), .val (.int (0 : Int32)), .val (.int (5 : Int32)), .val (.ref d), .val (.int (5 : Int32)), .unset] [(.int (5 : Int32))]))
  refine Go.of (fun _ q => XS.iloadN X2.here hx rfl (hb hby d5_16) rfl q) ?_
  show Go _ _ _ _ _ _ _ (T2.setTop (mkF m 17 #[.val (.ref b), .val (.int (0 : Int32)), .val (.int (5 : Int32)), .val (.ref d), .val (.int (5 : Int32)), .unset] [(.int (5 : Int32)), (.int (5 : Int32))]))
  refine Go.of (fun _ q => XS.icmpYes X2.here hx rfl (pc0 := 17) (pc' := 57) rfl (hb hby d5_17) rfl (teq rfl).1 (by decide) (by decide) q) ?_
  show Go _ _ _ _ _ _ _ (T2.setTop (mkF m 57 #[.val (.ref b), .val (.int (0 : Int32)), .val (.int (5 : Int32)), .val (.ref d), .val (.int (5 : Int32)), .unset] []))
  refine Go.of (fun _ q => XS.aloadN X2.here hx rfl (hb hby d5_57) rfl rfl q) ?_
  show Go _ _ _ _ _ _ _ (T2.setTop (mkF m 58 #[.val (.ref b), .val (.int (0 : Int32)), .val (.int (5 : Int32)), .val (.ref d), .val (.int (5 : Int32)), .unset] [(.ref d)]))
  refine Go.retA X2 hx hlk hret rfl rfl (hb hby d5_58) (by decide) (by decide) ?_
  exact ⟨d, k1, rfl, N2, Kp, sz_d, A_d⟩
theorem ef_7_s5 (m : MethodId) (d : Addr) : entryFrame m #[(.ref d), (.int (5 : Int32))] 2 = mkF m 0 #[.val (.ref d), .val (.int (5 : Int32))] [] := by first | (simp [entryFrame, mkF, argsToLocals, Value.category]; done) | rfl
def Q7_s5 (Z : State) (d : Addr) (kd : ClassId) (gd : Nat → Int32) (h0 : Heap) (n0 : Nat) (v : Option Value) (h : Heap) (L : List Loc) : Prop := v = some (.int (0 : Int32)) ∧ Fr n0 L ∧ h = h0
set_option maxRecDepth 65536 in
set_option maxHeartbeats 40000000 in
theorem rm7_s5 (l : Launch) (Z : State) (a0 : Array Value) (hw : ∀ d ∈ tables_1, d.before a0 Z = true) (d : Addr) (kd : ClassId) (gd : Nat → Int32) (h0 : Heap) (n0 : Nat) (Zs : n0 ≤ h0.size) (A_d : AF Z h0 d kd .byte 5 (fun i => .int (gd i))) :
    Con l Z (⟨"java/lang/StringUTF16", "coderFromArrayLen", "([BI)B"⟩ : MethodName) jdk_52_method_15_code 2 (some .byte) ({ frames := 0, cells := 0, slots := 0, locals := 0 } : Room) #[(.ref d), (.int (5 : Int32))] h0 (Q7_s5 Z d kd gd h0 n0) := by
  refine Con.intro (plainFor_of_name pn5) (fun m => ef_7_s5 m d) ?_
  intro p e s m below meth c s₁ hx hby hml0 hZ hown hnm hret hlk X0 e0
  have hml : c.maxLocals = 2 := hml0
  have N0 := Fr.nil n0
  have Kp : Keep h0 h0 [] := Keep.refl h0 _
  show Go _ _ _ _ _ _ _ (s₁.setTop (mkF m 0 #[.val (.ref d), .val (.int (5 : Int32))] []))
  refine Go.of (fun _ q => XS.iloadN X0.here hx rfl (hb hby d7_0) rfl q) ?_
  show Go _ _ _ _ _ _ _ (s₁.setTop (mkF m 1 #[.val (.ref d), .val (.int (5 : Int32))] [(.int (5 : Int32))]))
  refine Go.of (fun _ q => XS.aloadN X0.here hx rfl (hb hby d7_1) rfl rfl q) ?_
  show Go _ _ _ _ _ _ _ (s₁.setTop (mkF m 2 #[.val (.ref d), .val (.int (5 : Int32))] [(.ref d), (.int (5 : Int32))]))
  refine Go.of (fun _ q => AF.length A_d X0 hx hZ e0 rfl (g := (mkF m 2 #[.val (.ref d), .val (.int (5 : Int32))] [(.ref d), (.int (5 : Int32))])) rfl rfl (hb hby d7_2) q) ?_
  show Go _ _ _ _ _ _ _ (s₁.setTop (mkF m 3 #[.val (.ref d), .val (.int (5 : Int32))] [(.int (5 : Int32)), (.int (5 : Int32))]))
  refine Go.of (fun _ q => XS.isub X0.here hx rfl (hb hby d7_3) rfl q) ?_
  show Go _ _ _ _ _ _ _ (s₁.setTop (mkF m 4 #[.val (.ref d), .val (.int (5 : Int32))] [(.int (0 : Int32))]))
  refine Go.of (fun _ q => XS.bipush X0.here hx rfl (hb hby d7_4) q) ?_
  show Go _ _ _ _ _ _ _ (s₁.setTop (mkF m 6 #[.val (.ref d), .val (.int (5 : Int32))] [(.int (31 : Int32)), (.int (0 : Int32))]))
  refine Go.of (fun _ q => XS.iushr X0.here hx rfl (hb hby d7_6) rfl q) ?_
  show Go _ _ _ _ _ _ _ (s₁.setTop (mkF m 7 #[.val (.ref d), .val (.int (5 : Int32))] [(.int (0 : Int32))]))
  refine Go.of (fun _ q => XS.i2b X0.here hx rfl (hb hby d7_7) rfl q) ?_
  show Go _ _ _ _ _ _ _ (s₁.setTop (mkF m 8 #[.val (.ref d), .val (.int (5 : Int32))] [(.int (0 : Int32))]))
  refine Go.retN X0 hx hlk (t := .byte) hret (by simp) (hb hby d7_8) rfl (by decide) (by decide) ?_
  rw [e0]
  exact ⟨rfl, N0, rfl⟩
theorem ef_3_s5 (m : MethodId) (a : Addr) (b : Addr) : entryFrame m #[(.ref a), (.ref b), (.int (0 : Int32)), (.int (5 : Int32)), .null] 6 = mkF m 0 #[.val (.ref a), .val (.ref b), .val (.int (0 : Int32)), .val (.int (5 : Int32)), .val .null, .unset] [] := by first | (simp [entryFrame, mkF, argsToLocals, Value.category]; done) | rfl
def Q3_s5 (Z : State) (a : Addr) (b : Addr) (kb : ClassId) (gb : Nat → Int32) (u1 : Value) (u2 : Int32) (cs : Int32) (h0 : Heap) (n0 : Nat) (v : Option Value) (h : Heap) (L : List Loc) : Prop := ∃ d : Addr, ∃ kd : ClassId, v = none ∧ Fr n0 L ∧ Keep h0 h [a] ∧ h0.size ≤ d ∧ Exa Z h a "java/lang/String" ∧ Fld Z h a "java/lang/String" "value" "[B" (.ref d) ∧ Fld Z h a "java/lang/String" "coder" "B" (.int (0 : Int32)) ∧ AF Z h d kd .byte 5 (fun i => .int ((fun i => own_by (gb i)) i))
set_option maxRecDepth 65536 in
set_option maxHeartbeats 40000000 in
theorem rm3_s5 (l : Launch) (Z : State) (a0 : Array Value) (hw : ∀ d ∈ tables_1, d.before a0 Z = true) (a : Addr) (b : Addr) (kb : ClassId) (gb : Nat → Int32) (u1 : Value) (u2 : Int32) (cs : Int32) (h0 : Heap) (n0 : Nat) (Zs : n0 ≤ h0.size) (Od : Old Z n0 h0) (E_a : Exa Z h0 a "java/lang/String") (F_a_value : Fld Z h0 a "java/lang/String" "value" "[B" u1) (F_a_coder : Fld Z h0 a "java/lang/String" "coder" "B" (.int u2)) (g_a : n0 ≤ a) (A_b : AF Z h0 b kb .char 5 (fun i => .int (gb i))) (ne_b_a : b ≠ a) (hg : ∀ i, i < 5 → ¬ (255 : Int32) < gb i) (Scs : Sta Z Z.heap "java/lang/String" "COMPACT_STRINGS" "Z" (.int cs)) (hcs : ¬ cs = (0 : Int32)) :
    Con l Z (⟨"java/lang/String", "<init>", "([CIILjava/lang/Void;)V"⟩ : MethodName) jdk_42_method_149_code 6 none ({ frames := 2, cells := 1, slots := 5, locals := 35 } : Room) #[(.ref a), (.ref b), (.int (0 : Int32)), (.int (5 : Int32)), .null] h0 (Q3_s5 Z a b kb gb u1 u2 cs h0 n0) := by
  refine Con.intro (plainFor_of_name pn0) (fun m => ef_3_s5 m a b) ?_
  intro p e s m below meth c s₁ hx hby hml0 hZ hown hnm hret hlk X0 e0
  have hml : c.maxLocals = 6 := hml0
  have N0 := Fr.nil n0
  have Kp : Keep h0 h0 [a] := Keep.refl h0 _
  show Go _ _ _ _ _ _ _ (s₁.setTop (mkF m 0 #[.val (.ref a), .val (.ref b), .val (.int (0 : Int32)), .val (.int (5 : Int32)), .val .null, .unset] []))
  refine Go.of (fun _ q => XS.aloadN X0.here hx rfl (hb hby d3_0) rfl rfl q) ?_
  show Go _ _ _ _ _ _ _ (s₁.setTop (mkF m 1 #[.val (.ref a), .val (.ref b), .val (.int (0 : Int32)), .val (.int (5 : Int32)), .val .null, .unset] [(.ref a)]))
  obtain ⟨T1, X1, e1, st1⟩ := initO X0 hx hZ hown (hw _ (List.mem_of_getElem? (i := 16) rfl)) (hw _ (List.mem_of_getElem? (i := 17) rfl)) (hw _ (List.mem_of_getElem? (i := 18) rfl)) e0 (g := (mkF m 1 #[.val (.ref a), .val (.ref b), .val (.int (0 : Int32)), .val (.int (5 : Int32)), .val .null, .unset] [(.ref a)])) rfl (by rw [hml]; rfl) rfl (hb hby d3_1) (by decide) (W := 0) (by show 2 * 0 + _ ≤ _; exact Nat.le_of_eq rfl) (by decide)
  refine Go.of st1 ?_
  show Go _ _ _ _ _ _ _ (T1.setTop (mkF m 4 #[.val (.ref a), .val (.ref b), .val (.int (0 : Int32)), .val (.int (5 : Int32)), .val .null, .unset] []))
  refine Go.of (fun _ q => XS.iloadN X1.here hx rfl (hb hby d3_4) rfl q) ?_
  show Go _ _ _ _ _ _ _ (T1.setTop (mkF m 5 #[.val (.ref a), .val (.ref b), .val (.int (0 : Int32)), .val (.int (5 : Int32)), .val .null, .unset] [(.int (5 : Int32))]))
  refine Go.of (fun _ q => XS.ifYes X1.here hx rfl (pc0 := 5) (pc' := 27) rfl (hb hby d3_5) rfl ((if0 _ _).trans (feq (by decide)).2) (by decide) (by decide) q) ?_
  show Go _ _ _ _ _ _ _ (T1.setTop (mkF m 27 #[.val (.ref a), .val (.ref b), .val (.int (0 : Int32)), .val (.int (5 : Int32)), .val .null, .unset] []))
  obtain ⟨T2, X2, e2, st2⟩ := getS2 X1 hx hZ hown (host := "") (Or.inl (hw _ (List.mem_of_getElem? (i := 19) rfl))) Via.refl e1 (Sta.ext Od.2 Scs) (g := (mkF m 27 #[.val (.ref a), .val (.ref b), .val (.int (0 : Int32)), .val (.int (5 : Int32)), .val .null, .unset] [])) rfl (hb hby d3_27)
  refine Go.of st2 ?_
  show Go _ _ _ _ _ _ _ (T2.setTop (mkF m 30 #[.val (.ref a), .val (.ref b), .val (.int (0 : Int32)), .val (.int (5 : Int32)), .val .null, .unset] [(.int cs)]))
  refine Go.of (fun _ q => XS.ifNo X2.here hx rfl (hb hby d3_30) rfl ((if0 _ _).trans (feq hcs).1) q) ?_
  show Go _ _ _ _ _ _ _ (T2.setTop (mkF m 33 #[.val (.ref a), .val (.ref b), .val (.int (0 : Int32)), .val (.int (5 : Int32)), .val .null, .unset] []))
  refine Go.of (fun _ q => XS.aloadN X2.here hx rfl (hb hby d3_33) rfl rfl q) ?_
  show Go _ _ _ _ _ _ _ (T2.setTop (mkF m 34 #[.val (.ref a), .val (.ref b), .val (.int (0 : Int32)), .val (.int (5 : Int32)), .val .null, .unset] [(.ref b)]))
  refine Go.of (fun _ q => XS.iloadN X2.here hx rfl (hb hby d3_34) rfl q) ?_
  show Go _ _ _ _ _ _ _ (T2.setTop (mkF m 35 #[.val (.ref a), .val (.ref b), .val (.int (0 : Int32)), .val (.int (5 : Int32)), .val .null, .unset] [(.int (0 : Int32)), (.ref b)]))
  refine Go.of (fun _ q => XS.iloadN X2.here hx rfl (hb hby d3_35) rfl q) ?_
  show Go _ _ _ _ _ _ _ (T2.setTop (mkF m 36 #[.val (.ref a), .val (.ref b), .val (.int (0 : Int32)), .val (.int (5 : Int32)), .val .null, .unset] [(.int (5 : Int32)), (.int (0 : Int32)), (.ref b)]))
  refine Go.static X2 hx hZ (y := (⟨"java/lang/StringUTF16", "compress", "([CII)[B"⟩ : MethodName)) (argsL := [(.ref b), (.int (0 : Int32)), (.int (5 : Int32))]) hown (hw _ (List.mem_of_getElem? (i := 20) rfl)) (hw _ (List.mem_of_getElem? (i := 21) rfl)) (hw _ (List.mem_of_getElem? (i := 22) rfl)) (hw _ (List.mem_of_getElem? (i := 23) rfl)) (by decide) 0 e2 (rm5_s5 l Z a0 hw b kb gb h0 n0 Zs A_b hg) (by decide) (by decide) (by decide) (by decide) (g := (mkF m 36 #[.val (.ref a), .val (.ref b), .val (.int (0 : Int32)), .val (.int (5 : Int32)), .val .null, .unset] [(.int (5 : Int32)), (.int (0 : Int32)), (.ref b)])) rfl (by rw [hml]; rfl) (rest := []) (lenOf pd14 rfl) rfl (by show 2 * 0 + _ ≤ _; exact Nat.le_of_eq rfl) (hb hby d3_36) ?_
  intro T3 v3 L3 X3 q3
  obtain ⟨d, kd, rfl, Nq3, K3, f3_0, f3_1⟩ := q3
  have N3 := Fr.app N0 Nq3
  have g_d : n0 ≤ d := Nat.le_trans Zs f3_0
  have sz_d : h0.size ≤ d := Nat.le_trans Kp.1 f3_0
  have ne_a_d : a ≠ d := Nat.ne_of_lt (Nat.lt_of_lt_of_le E_a.lt f3_0)
  have ne_b_d : b ≠ d := Nat.ne_of_lt (Nat.lt_of_lt_of_le A_b.lt f3_0)
  have Zs := Nat.le_trans Zs K3.1
  have Kp := Kp.trans K3 all0
  have Od := Od.keep K3 all0
  have E_a := E_a.keep K3
  have F_a_value := F_a_value.keep K3 nin0
  have F_a_coder := F_a_coder.keep K3 nin0
  have A_b := A_b.keep K3 nin0
  have A_d := f3_1
  show Go _ _ _ _ _ _ _ (T3.setTop (mkF m 39 #[.val (.ref a), .val (.ref b), .val (.int (0 : Int32)), .val (.int (5 : Int32)), .val .null, .unset] [(.ref d)]))
  refine Go.of (fun _ q => XS.astore X3.here hx rfl (hb hby d3_39) rfl rfl (l' := #[.val (.ref a), .val (.ref b), .val (.int (0 : Int32)), .val (.int (5 : Int32)), .val .null, .val (.ref d)]) rfl q) ?_
  show Go _ _ _ _ _ _ _ (T3.setTop (mkF m 41 #[.val (.ref a), .val (.ref b), .val (.int (0 : Int32)), .val (.int (5 : Int32)), .val .null, .val (.ref d)] []))
  refine Go.of (fun _ q => XS.aloadN X3.here hx rfl (hb hby d3_41) rfl rfl q) ?_
  show Go _ _ _ _ _ _ _ (T3.setTop (mkF m 42 #[.val (.ref a), .val (.ref b), .val (.int (0 : Int32)), .val (.int (5 : Int32)), .val .null, .val (.ref d)] [(.ref a)]))
  refine Go.of (fun _ q => XS.aload X3.here hx rfl (hb hby d3_42) rfl rfl q) ?_
  show Go _ _ _ _ _ _ _ (T3.setTop (mkF m 44 #[.val (.ref a), .val (.ref b), .val (.int (0 : Int32)), .val (.int (5 : Int32)), .val .null, .val (.ref d)] [(.ref d), (.ref a)]))
  refine Go.of (fun _ q => XS.iloadN X3.here hx rfl (hb hby d3_44) rfl q) ?_
  show Go _ _ _ _ _ _ _ (T3.setTop (mkF m 45 #[.val (.ref a), .val (.ref b), .val (.int (0 : Int32)), .val (.int (5 : Int32)), .val .null, .val (.ref d)] [(.int (5 : Int32)), (.ref d), (.ref a)]))
  refine Go.static X3 hx hZ (y := (⟨"java/lang/StringUTF16", "coderFromArrayLen", "([BI)B"⟩ : MethodName)) (argsL := [(.ref d), (.int (5 : Int32))]) hown (hw _ (List.mem_of_getElem? (i := 28) rfl)) (hw _ (List.mem_of_getElem? (i := 29) rfl)) (hw _ (List.mem_of_getElem? (i := 22) rfl)) (hw _ (List.mem_of_getElem? (i := 30) rfl)) (by decide) 1 rfl (rm7_s5 l Z a0 hw d kd (fun i => own_by (gb i)) T3.heap n0 Zs A_d) (by decide) (by decide) (by decide) (by decide) (g := (mkF m 45 #[.val (.ref a), .val (.ref b), .val (.int (0 : Int32)), .val (.int (5 : Int32)), .val .null, .val (.ref d)] [(.int (5 : Int32)), (.ref d), (.ref a)])) rfl (by rw [hml]; rfl) (rest := [(.ref a)]) (lenOf pd15 rfl) rfl (by show 2 * 0 + _ ≤ _; exact Nat.le_of_eq rfl) (hb hby d3_45) ?_
  intro T4 v4 L4 X4 q4
  obtain ⟨rfl, Nq4, e4⟩ := q4
  have N4 := Fr.app N3 Nq4
  show Go _ _ _ _ _ _ _ (T4.setTop (mkF m 48 #[.val (.ref a), .val (.ref b), .val (.int (0 : Int32)), .val (.int (5 : Int32)), .val .null, .val (.ref d)] [(.int (0 : Int32)), (.ref a)]))
  obtain ⟨T5, h5, X5, e5, W5, st5⟩ := putFN X4 hx hZ hown (hw _ (List.mem_of_getElem? (i := 31) rfl)) Via.refl e4 F_a_coder E_a (Or.inr ⟨(hw _ (List.mem_of_getElem? (i := 32) rfl)), rfl, hnm⟩) (hw _ (List.mem_of_getElem? (i := 6) rfl)) (ty := .byte) (v' := .int (0 : Int32)) (by decide) rfl rfl (g := (mkF m 48 #[.val (.ref a), .val (.ref b), .val (.int (0 : Int32)), .val (.int (5 : Int32)), .val .null, .val (.ref d)] [(.int (0 : Int32)), (.ref a)])) rfl rfl (hb hby d3_48)
  refine Go.of st5 ?_
  have Zs := Nat.le_trans Zs (Nat.le_of_eq W5.size.symm)
  have Kp := Kp.wr W5 (Or.inl (List.mem_of_getElem? (i := 0) rfl))
  have Od := Od.wr W5 g_a
  have E_a := E_a.wr W5
  have F_a_value := F_a_value.other W5 (Or.inr (slot_ne (Or.inr (hw _ (List.mem_of_getElem? (i := 34) rfl))) (Or.inr (hw _ (List.mem_of_getElem? (i := 32) rfl))) (by decide) (t := (.array .byte)) (t' := .byte) (by decide) (by decide)))
  have F_a_coder := F_a_coder.same W5
  have A_b := A_b.other W5 ne_b_a
  have A_d := A_d.other W5 (Ne.symm ne_a_d)
  have N5 := Fr.snoc X5 N4 g_a
  show Go _ _ _ _ _ _ _ (T5.setTop (mkF m 51 #[.val (.ref a), .val (.ref b), .val (.int (0 : Int32)), .val (.int (5 : Int32)), .val .null, .val (.ref d)] []))
  refine Go.of (fun _ q => XS.aloadN X5.here hx rfl (hb hby d3_51) rfl rfl q) ?_
  show Go _ _ _ _ _ _ _ (T5.setTop (mkF m 52 #[.val (.ref a), .val (.ref b), .val (.int (0 : Int32)), .val (.int (5 : Int32)), .val .null, .val (.ref d)] [(.ref a)]))
  refine Go.of (fun _ q => XS.aload X5.here hx rfl (hb hby d3_52) rfl rfl q) ?_
  show Go _ _ _ _ _ _ _ (T5.setTop (mkF m 54 #[.val (.ref a), .val (.ref b), .val (.int (0 : Int32)), .val (.int (5 : Int32)), .val .null, .val (.ref d)] [(.ref d), (.ref a)]))
  obtain ⟨T6, h6, X6, e6, W6, st6⟩ := putF X5 hx hZ hown (host := "") (Or.inl (hw _ (List.mem_of_getElem? (i := 33) rfl))) Via.refl e5 F_a_value E_a (Or.inr ⟨(hw _ (List.mem_of_getElem? (i := 34) rfl)), rfl, hnm⟩) (hw _ (List.mem_of_getElem? (i := 6) rfl)) (ty := (.array .byte)) (by decide) rfl rfl (g := (mkF m 54 #[.val (.ref a), .val (.ref b), .val (.int (0 : Int32)), .val (.int (5 : Int32)), .val .null, .val (.ref d)] [(.ref d), (.ref a)])) rfl rfl (hb hby d3_54)
  refine Go.of st6 ?_
  have Zs := Nat.le_trans Zs (Nat.le_of_eq W6.size.symm)
  have Kp := Kp.wr W6 (Or.inl (List.mem_of_getElem? (i := 0) rfl))
  have Od := Od.wr W6 g_a
  have E_a := E_a.wr W6
  have F_a_value := F_a_value.same W6
  have F_a_coder := F_a_coder.other W6 (Or.inr (slot_ne (Or.inr (hw _ (List.mem_of_getElem? (i := 32) rfl))) (Or.inr (hw _ (List.mem_of_getElem? (i := 34) rfl))) (by decide) (t := .byte) (t' := (.array .byte)) (by decide) (by decide)))
  have A_b := A_b.other W6 ne_b_a
  have A_d := A_d.other W6 (Ne.symm ne_a_d)
  have N6 := Fr.snoc X6 N5 g_a
  show Go _ _ _ _ _ _ _ (T6.setTop (mkF m 57 #[.val (.ref a), .val (.ref b), .val (.int (0 : Int32)), .val (.int (5 : Int32)), .val .null, .val (.ref d)] []))
  refine Go.retV X6 hx hlk hret (hb hby d3_57) (by decide) (by decide) ?_
  rw [e6]
  exact ⟨d, kd, rfl, N6, Kp, sz_d, E_a, F_a_value, F_a_coder, A_d⟩
theorem ef_2_s5 (m : MethodId) (a : Addr) (b : Addr) : entryFrame m #[(.ref a), (.ref b)] 2 = mkF m 0 #[.val (.ref a), .val (.ref b)] [] := by first | (simp [entryFrame, mkF, argsToLocals, Value.category]; done) | rfl
def Q2_s5 (Z : State) (a : Addr) (b : Addr) (kb : ClassId) (gb : Nat → Int32) (u1 : Value) (u2 : Int32) (cs : Int32) (h0 : Heap) (n0 : Nat) (v : Option Value) (h : Heap) (L : List Loc) : Prop := ∃ d : Addr, ∃ kd : ClassId, v = none ∧ Fr n0 L ∧ Keep h0 h [a] ∧ h0.size ≤ d ∧ Exa Z h a "java/lang/String" ∧ Fld Z h a "java/lang/String" "value" "[B" (.ref d) ∧ Fld Z h a "java/lang/String" "coder" "B" (.int (0 : Int32)) ∧ AF Z h d kd .byte 5 (fun i => .int ((fun i => own_by (gb i)) i))
set_option maxRecDepth 65536 in
set_option maxHeartbeats 40000000 in
theorem rm2_s5 (l : Launch) (Z : State) (a0 : Array Value) (hw : ∀ d ∈ tables_1, d.before a0 Z = true) (a : Addr) (b : Addr) (kb : ClassId) (gb : Nat → Int32) (u1 : Value) (u2 : Int32) (cs : Int32) (h0 : Heap) (n0 : Nat) (Zs : n0 ≤ h0.size) (Od : Old Z n0 h0) (E_a : Exa Z h0 a "java/lang/String") (F_a_value : Fld Z h0 a "java/lang/String" "value" "[B" u1) (F_a_coder : Fld Z h0 a "java/lang/String" "coder" "B" (.int u2)) (g_a : n0 ≤ a) (A_b : AF Z h0 b kb .char 5 (fun i => .int (gb i))) (ne_b_a : b ≠ a) (hg : ∀ i, i < 5 → ¬ (255 : Int32) < gb i) (Scs : Sta Z Z.heap "java/lang/String" "COMPACT_STRINGS" "Z" (.int cs)) (hcs : ¬ cs = (0 : Int32)) :
    Con l Z (⟨"java/lang/String", "<init>", "([C)V"⟩ : MethodName) jdk_42_method_3_code 2 none ({ frames := 3, cells := 1, slots := 5, locals := 52 } : Room) #[(.ref a), (.ref b)] h0 (Q2_s5 Z a b kb gb u1 u2 cs h0 n0) := by
  refine Con.intro (plainFor_of_name pn0) (fun m => ef_2_s5 m a b) ?_
  intro p e s m below meth c s₁ hx hby hml0 hZ hown hnm hret hlk X0 e0
  have hml : c.maxLocals = 2 := hml0
  have N0 := Fr.nil n0
  have Kp : Keep h0 h0 [a] := Keep.refl h0 _
  show Go _ _ _ _ _ _ _ (s₁.setTop (mkF m 0 #[.val (.ref a), .val (.ref b)] []))
  refine Go.of (fun _ q => XS.aloadN X0.here hx rfl (hb hby d2_0) rfl rfl q) ?_
  show Go _ _ _ _ _ _ _ (s₁.setTop (mkF m 1 #[.val (.ref a), .val (.ref b)] [(.ref a)]))
  refine Go.of (fun _ q => XS.aloadN X0.here hx rfl (hb hby d2_1) rfl rfl q) ?_
  show Go _ _ _ _ _ _ _ (s₁.setTop (mkF m 2 #[.val (.ref a), .val (.ref b)] [(.ref b), (.ref a)]))
  refine Go.of (fun _ q => XS.iconst X0.here hx rfl (hb hby d2_2) q) ?_
  show Go _ _ _ _ _ _ _ (s₁.setTop (mkF m 3 #[.val (.ref a), .val (.ref b)] [(.int (0 : Int32)), (.ref b), (.ref a)]))
  refine Go.of (fun _ q => XS.aloadN X0.here hx rfl (hb hby d2_3) rfl rfl q) ?_
  show Go _ _ _ _ _ _ _ (s₁.setTop (mkF m 4 #[.val (.ref a), .val (.ref b)] [(.ref b), (.int (0 : Int32)), (.ref b), (.ref a)]))
  refine Go.of (fun _ q => AF.length A_b X0 hx hZ e0 rfl (g := (mkF m 4 #[.val (.ref a), .val (.ref b)] [(.ref b), (.int (0 : Int32)), (.ref b), (.ref a)])) rfl rfl (hb hby d2_4) q) ?_
  show Go _ _ _ _ _ _ _ (s₁.setTop (mkF m 5 #[.val (.ref a), .val (.ref b)] [(.int (5 : Int32)), (.int (0 : Int32)), (.ref b), (.ref a)]))
  refine Go.of (fun _ q => XS.aconstNull X0.here hx rfl (hb hby d2_5) q) ?_
  show Go _ _ _ _ _ _ _ (s₁.setTop (mkF m 6 #[.val (.ref a), .val (.ref b)] [.null, (.int (5 : Int32)), (.int (0 : Int32)), (.ref b), (.ref a)]))
  refine Go.special X0 hx hZ (y := (⟨"java/lang/String", "<init>", "([CIILjava/lang/Void;)V"⟩ : MethodName)) (a := a) (argsL := [(.ref b), (.int (0 : Int32)), (.int (5 : Int32)), .null]) rfl hown (hw _ (List.mem_of_getElem? (i := 12) rfl)) (hw _ (List.mem_of_getElem? (i := 13) rfl)) (hw _ (List.mem_of_getElem? (i := 7) rfl)) (hw _ (List.mem_of_getElem? (i := 15) rfl)) (by decide) 0 e0 (rm3_s5 l Z a0 hw a b kb gb u1 u2 cs h0 n0 Zs Od E_a F_a_value F_a_coder g_a A_b ne_b_a hg Scs hcs) (by decide) (by decide) (by decide) (by decide) (g := (mkF m 6 #[.val (.ref a), .val (.ref b)] [.null, (.int (5 : Int32)), (.int (0 : Int32)), (.ref b), (.ref a)])) rfl (by rw [hml]; rfl) (rest := []) (lenOf pd10 rfl) rfl (by show 2 * 0 + _ ≤ _; exact Nat.le_of_eq rfl) (hb hby d2_6) ?_
  intro T1 v1 L1 X1 q1
  obtain ⟨d, kd, rfl, Nq1, K1, f1_0, f1_1, f1_2, f1_3, f1_4⟩ := q1
  have N1 := Fr.app N0 Nq1
  have g_d : n0 ≤ d := Nat.le_trans Zs f1_0
  have sz_d : h0.size ≤ d := Nat.le_trans Kp.1 f1_0
  have ne_a_d : a ≠ d := Nat.ne_of_lt (Nat.lt_of_lt_of_le E_a.lt f1_0)
  have ne_b_d : b ≠ d := Nat.ne_of_lt (Nat.lt_of_lt_of_le A_b.lt f1_0)
  have Zs := Nat.le_trans Zs K1.1
  have Kp := Kp.trans K1 (allS (P := fun x => x ∈ [a] ∨ h0.size ≤ x) (Or.inl (List.mem_of_getElem? (i := 0) rfl)) all0)
  have Od := Od.keep K1 (allS (P := fun x => n0 ≤ x) g_a all0)
  have E_a := E_a.keep K1
  have A_b := A_b.keep K1 (ninS ne_b_a nin0)
  have F_a_value := f1_2
  have F_a_coder := f1_3
  have A_d := f1_4
  show Go _ _ _ _ _ _ _ (T1.setTop (mkF m 9 #[.val (.ref a), .val (.ref b)] []))
  refine Go.retV X1 hx hlk hret (hb hby d2_9) (by decide) (by decide) ?_
  exact ⟨d, kd, rfl, N1, Kp, sz_d, E_a, F_a_value, F_a_coder, A_d⟩
theorem d1_110 : decode method_3_code 110 = .ok (.new 7, 3) := by decide +kernel
theorem d1_113 : decode method_3_code 113 = .ok (.dup, 1) := by decide +kernel
theorem d1_114 : decode method_3_code 114 = .ok (.iconst 5, 1) := by decide +kernel
theorem d1_115 : decode method_3_code 115 = .ok (.newarray .char, 2) := by decide +kernel
theorem d1_117 : decode method_3_code 117 = .ok (.dup, 1) := by decide +kernel
theorem d1_118 : decode method_3_code 118 = .ok (.iconst 0, 1) := by decide +kernel
theorem d1_119 : decode method_3_code 119 = .ok (.iload_n 1, 1) := by decide +kernel
theorem d1_120 : decode method_3_code 120 = .ok (.castore, 1) := by decide +kernel
theorem d1_121 : decode method_3_code 121 = .ok (.dup, 1) := by decide +kernel
theorem d1_122 : decode method_3_code 122 = .ok (.iconst 1, 1) := by decide +kernel
theorem d1_123 : decode method_3_code 123 = .ok (.iload_n 2, 1) := by decide +kernel
theorem d1_124 : decode method_3_code 124 = .ok (.castore, 1) := by decide +kernel
theorem d1_125 : decode method_3_code 125 = .ok (.dup, 1) := by decide +kernel
theorem d1_126 : decode method_3_code 126 = .ok (.iconst 2, 1) := by decide +kernel
theorem d1_127 : decode method_3_code 127 = .ok (.iload_n 3, 1) := by decide +kernel
theorem d1_128 : decode method_3_code 128 = .ok (.castore, 1) := by decide +kernel
theorem d1_129 : decode method_3_code 129 = .ok (.dup, 1) := by decide +kernel
theorem d1_130 : decode method_3_code 130 = .ok (.iconst 3, 1) := by decide +kernel
theorem d1_131 : decode method_3_code 131 = .ok (.iload 4, 2) := by decide +kernel
theorem d1_133 : decode method_3_code 133 = .ok (.castore, 1) := by decide +kernel
theorem d1_134 : decode method_3_code 134 = .ok (.dup, 1) := by decide +kernel
theorem d1_135 : decode method_3_code 135 = .ok (.iconst 4, 1) := by decide +kernel
theorem d1_136 : decode method_3_code 136 = .ok (.iload 5, 2) := by decide +kernel
theorem d1_138 : decode method_3_code 138 = .ok (.castore, 1) := by decide +kernel
theorem d1_139 : decode method_3_code 139 = .ok (.invokespecial 9, 3) := by decide +kernel
theorem d1_142 : decode method_3_code 142 = .ok (.areturn, 1) := by decide +kernel
theorem ef_1_5 (m : MethodId) (x1 : Int32) (x2 : Int32) (x3 : Int32) (x4 : Int32) (x5 : Int32) : entryFrame m #[(.int (5 : Int32)), (.int x1), (.int x2), (.int x3), (.int x4), (.int x5)] 6 = mkF m 0 #[.val (.int (5 : Int32)), .val (.int x1), .val (.int x2), .val (.int x3), .val (.int x4), .val (.int x5)] [] := by first | (simp [entryFrame, mkF, argsToLocals, Value.category]; done) | rfl
def Q1_5 (Z : State) (x1 : Int32) (x2 : Int32) (x3 : Int32) (x4 : Int32) (x5 : Int32) (cs : Int32) (h0 : Heap) (n0 : Nat) (v : Option Value) (h : Heap) (L : List Loc) : Prop := ∃ sa : Addr, ∃ d : Addr, ∃ kd : ClassId, ∃ gd : Nat → Int32, v = some (.ref sa) ∧ Fr n0 L ∧ Keep h0 h [] ∧ h0.size ≤ sa ∧ Exa Z h sa "java/lang/String" ∧ Fld Z h sa "java/lang/String" "value" "[B" (.ref d) ∧ Fld Z h sa "java/lang/String" "coder" "B" (.int (0 : Int32)) ∧ AF Z h d kd .byte 5 (fun i => .int (gd i))
set_option maxRecDepth 65536 in
set_option maxHeartbeats 40000000 in
theorem rm1_5 (l : Launch) (Z : State) (a0 : Array Value) (hw : ∀ d ∈ tables_1, d.before a0 Z = true) (x1 : Int32) (x2 : Int32) (x3 : Int32) (x4 : Int32) (x5 : Int32) (cs : Int32) (h0 : Heap) (n0 : Nat) (Zs : n0 ≤ h0.size) (Od : Old Z n0 h0) (hc1 : ¬ (255 : Int32) < (x1.toUInt32.toUInt16.toUInt32.toInt32)) (hc2 : ¬ (255 : Int32) < (x2.toUInt32.toUInt16.toUInt32.toInt32)) (hc3 : ¬ (255 : Int32) < (x3.toUInt32.toUInt16.toUInt32.toInt32)) (hc4 : ¬ (255 : Int32) < (x4.toUInt32.toUInt16.toUInt32.toInt32)) (hc5 : ¬ (255 : Int32) < (x5.toUInt32.toUInt16.toUInt32.toInt32)) (Scs : Sta Z Z.heap "java/lang/String" "COMPACT_STRINGS" "Z" (.int cs)) (hcs : ¬ cs = (0 : Int32)) :
    Con l Z (⟨"com/example/ddos_fee_ledger/ddosfeeledger/MoneyIsCurrencyPinLaw", "make", "(ICCCCC)Ljava/lang/String;"⟩ : MethodName) method_3_code 6 (some (.object "java/lang/String")) ({ frames := 4, cells := 3, slots := 14, locals := 66 } : Room) #[(.int (5 : Int32)), (.int x1), (.int x2), (.int x3), (.int x4), (.int x5)] h0 (Q1_5 Z x1 x2 x3 x4 x5 cs h0 n0) := by
  refine Con.intro (plainFor_of_name pn4) (fun m => ef_1_5 m x1 x2 x3 x4 x5) ?_
  intro p e s m below meth c s₁ hx hby hml0 hZ hown hnm hret hlk X0 e0
  have hml : c.maxLocals = 6 := hml0
  have N0 := Fr.nil n0
  have Kp : Keep h0 h0 [] := Keep.refl h0 _
  show Go _ _ _ _ _ _ _ (s₁.setTop (mkF m 0 #[.val (.int (5 : Int32)), .val (.int x1), .val (.int x2), .val (.int x3), .val (.int x4), .val (.int x5)] []))
  refine Go.of (fun _ q => XS.iloadN X0.here hx rfl (hb hby d1_0) rfl q) ?_
  show Go _ _ _ _ _ _ _ (s₁.setTop (mkF m 1 #[.val (.int (5 : Int32)), .val (.int x1), .val (.int x2), .val (.int x3), .val (.int x4), .val (.int x5)] [(.int (5 : Int32))]))
  refine Go.of (fun _ q => XS.ifYes X0.here hx rfl (pc0 := 1) (pc' := 15) rfl (hb hby d1_1) rfl ((if0 _ _).trans (feq (by decide)).2) (by decide) (by decide) q) ?_
  show Go _ _ _ _ _ _ _ (s₁.setTop (mkF m 15 #[.val (.int (5 : Int32)), .val (.int x1), .val (.int x2), .val (.int x3), .val (.int x4), .val (.int x5)] []))
  refine Go.of (fun _ q => XS.iloadN X0.here hx rfl (hb hby d1_15) rfl q) ?_
  show Go _ _ _ _ _ _ _ (s₁.setTop (mkF m 16 #[.val (.int (5 : Int32)), .val (.int x1), .val (.int x2), .val (.int x3), .val (.int x4), .val (.int x5)] [(.int (5 : Int32))]))
  refine Go.of (fun _ q => XS.iconst X0.here hx rfl (hb hby d1_16) q) ?_
  show Go _ _ _ _ _ _ _ (s₁.setTop (mkF m 17 #[.val (.int (5 : Int32)), .val (.int x1), .val (.int x2), .val (.int x3), .val (.int x4), .val (.int x5)] [(.int (1 : Int32)), (.int (5 : Int32))]))
  refine Go.of (fun _ q => XS.icmpYes X0.here hx rfl (pc0 := 17) (pc' := 25) rfl (hb hby d1_17) rfl (feq (by decide)).2 (by decide) (by decide) q) ?_
  show Go _ _ _ _ _ _ _ (s₁.setTop (mkF m 25 #[.val (.int (5 : Int32)), .val (.int x1), .val (.int x2), .val (.int x3), .val (.int x4), .val (.int x5)] []))
  refine Go.of (fun _ q => XS.iloadN X0.here hx rfl (hb hby d1_25) rfl q) ?_
  show Go _ _ _ _ _ _ _ (s₁.setTop (mkF m 26 #[.val (.int (5 : Int32)), .val (.int x1), .val (.int x2), .val (.int x3), .val (.int x4), .val (.int x5)] [(.int (5 : Int32))]))
  refine Go.of (fun _ q => XS.iconst X0.here hx rfl (hb hby d1_26) q) ?_
  show Go _ _ _ _ _ _ _ (s₁.setTop (mkF m 27 #[.val (.int (5 : Int32)), .val (.int x1), .val (.int x2), .val (.int x3), .val (.int x4), .val (.int x5)] [(.int (2 : Int32)), (.int (5 : Int32))]))
  refine Go.of (fun _ q => XS.icmpYes X0.here hx rfl (pc0 := 27) (pc' := 49) rfl (hb hby d1_27) rfl (feq (by decide)).2 (by decide) (by decide) q) ?_
  show Go _ _ _ _ _ _ _ (s₁.setTop (mkF m 49 #[.val (.int (5 : Int32)), .val (.int x1), .val (.int x2), .val (.int x3), .val (.int x4), .val (.int x5)] []))
  refine Go.of (fun _ q => XS.iloadN X0.here hx rfl (hb hby d1_49) rfl q) ?_
  show Go _ _ _ _ _ _ _ (s₁.setTop (mkF m 50 #[.val (.int (5 : Int32)), .val (.int x1), .val (.int x2), .val (.int x3), .val (.int x4), .val (.int x5)] [(.int (5 : Int32))]))
  refine Go.of (fun _ q => XS.iconst X0.here hx rfl (hb hby d1_50) q) ?_
  show Go _ _ _ _ _ _ _ (s₁.setTop (mkF m 51 #[.val (.int (5 : Int32)), .val (.int x1), .val (.int x2), .val (.int x3), .val (.int x4), .val (.int x5)] [(.int (3 : Int32)), (.int (5 : Int32))]))
  refine Go.of (fun _ q => XS.icmpYes X0.here hx rfl (pc0 := 51) (pc' := 77) rfl (hb hby d1_51) rfl (feq (by decide)).2 (by decide) (by decide) q) ?_
  show Go _ _ _ _ _ _ _ (s₁.setTop (mkF m 77 #[.val (.int (5 : Int32)), .val (.int x1), .val (.int x2), .val (.int x3), .val (.int x4), .val (.int x5)] []))
  refine Go.of (fun _ q => XS.iloadN X0.here hx rfl (hb hby d1_77) rfl q) ?_
  show Go _ _ _ _ _ _ _ (s₁.setTop (mkF m 78 #[.val (.int (5 : Int32)), .val (.int x1), .val (.int x2), .val (.int x3), .val (.int x4), .val (.int x5)] [(.int (5 : Int32))]))
  refine Go.of (fun _ q => XS.iconst X0.here hx rfl (hb hby d1_78) q) ?_
  show Go _ _ _ _ _ _ _ (s₁.setTop (mkF m 79 #[.val (.int (5 : Int32)), .val (.int x1), .val (.int x2), .val (.int x3), .val (.int x4), .val (.int x5)] [(.int (4 : Int32)), (.int (5 : Int32))]))
  refine Go.of (fun _ q => XS.icmpYes X0.here hx rfl (pc0 := 79) (pc' := 110) rfl (hb hby d1_79) rfl (feq (by decide)).2 (by decide) (by decide) q) ?_
  show Go _ _ _ _ _ _ _ (s₁.setTop (mkF m 110 #[.val (.int (5 : Int32)), .val (.int x1), .val (.int x2), .val (.int x3), .val (.int x4), .val (.int x5)] []))
  obtain ⟨T1, h1, X1, e1, E1, A1, D1, -, st1⟩ := newO X0 hx hZ hown (hw _ (List.mem_of_getElem? (i := 5) rfl)) (hw _ (List.mem_of_getElem? (i := 6) rfl)) (hw _ (List.mem_of_getElem? (i := 7) rfl)) e0 (g := (mkF m 110 #[.val (.int (5 : Int32)), .val (.int x1), .val (.int x2), .val (.int x3), .val (.int x4), .val (.int x5)] [])) rfl (hb hby d1_110) (by decide) (by decide)
  obtain ⟨sa, g1⟩ : ∃ z, z = h0.size := ⟨_, rfl⟩
  rw [← g1] at A1 D1 st1
  refine Go.of st1 ?_
  have g_sa : n0 ≤ sa := Nat.le_trans Zs (Nat.le_of_eq g1.symm)
  have sz_sa : h0.size ≤ sa := Nat.le_trans Kp.1 (Nat.le_of_eq g1.symm)
  have Zs := Nat.le_trans Zs E1.1
  have Kp := Kp.ext E1
  have Od := Od.ext E1
  have E_sa := A1
  have F_sa_coder : Fld Z h1 sa "java/lang/String" "coder" "B" (.int (0 : Int32)) := D1 (Or.inr (hw _ (List.mem_of_getElem? (i := 32) rfl))) (ty := .byte) (by decide)
  have F_sa_value : Fld Z h1 sa "java/lang/String" "value" "[B" .null := D1 (Or.inr (hw _ (List.mem_of_getElem? (i := 34) rfl))) (ty := (.array .byte)) (by decide)
  show Go _ _ _ _ _ _ _ (T1.setTop (mkF m 113 #[.val (.int (5 : Int32)), .val (.int x1), .val (.int x2), .val (.int x3), .val (.int x4), .val (.int x5)] [(.ref sa)]))
  refine Go.of (fun _ q => XS.dup X1.here hx rfl (hb hby d1_113) rfl rfl q) ?_
  show Go _ _ _ _ _ _ _ (T1.setTop (mkF m 114 #[.val (.int (5 : Int32)), .val (.int x1), .val (.int x2), .val (.int x3), .val (.int x4), .val (.int x5)] [(.ref sa), (.ref sa)]))
  refine Go.of (fun _ q => XS.iconst X1.here hx rfl (hb hby d1_114) q) ?_
  show Go _ _ _ _ _ _ _ (T1.setTop (mkF m 115 #[.val (.int (5 : Int32)), .val (.int x1), .val (.int x2), .val (.int x3), .val (.int x4), .val (.int x5)] [(.int (5 : Int32)), (.ref sa), (.ref sa)]))
  obtain ⟨T2, h2, k2, X2, e2, E2, A2, B2, st2⟩ := newPE X1 hx hZ (hw _ (List.mem_of_getElem? (i := 8) rfl)) e1 (g := (mkF m 115 #[.val (.int (5 : Int32)), .val (.int x1), .val (.int x2), .val (.int x3), .val (.int x4), .val (.int x5)] [(.int (5 : Int32)), (.ref sa), (.ref sa)])) rfl (hb hby d1_115) rfl (by decide) (cap := 5) (by decide) (by decide) (by decide) (by decide) (ad := "[C") (by decide)
  obtain ⟨b, g2⟩ : ∃ z, z = h1.size := ⟨_, rfl⟩
  rw [← g2] at A2 B2 st2
  refine Go.of st2 ?_
  have g_b : n0 ≤ b := Nat.le_trans Zs (Nat.le_of_eq g2.symm)
  have sz_b : h0.size ≤ b := Nat.le_trans Kp.1 (Nat.le_of_eq g2.symm)
  have ne_sa_b : sa ≠ b := Nat.ne_of_lt (Nat.lt_of_lt_of_le E_sa.lt (Nat.le_of_eq g2.symm))
  have Zs := Nat.le_trans Zs E2.1
  have Kp := Kp.ext E2
  have Od := Od.ext E2
  have E_sa := E_sa.ext E2
  have F_sa_coder := F_sa_coder.ext E2
  have F_sa_value := F_sa_value.ext E2
  have E_b := B2
  have A_b : AF Z h2 b k2 .char 5 (fun i => .int ((fun _ => (0 : Int32)) i)) := AF.new A2 (by decide) rfl rfl
  show Go _ _ _ _ _ _ _ (T2.setTop (mkF m 117 #[.val (.int (5 : Int32)), .val (.int x1), .val (.int x2), .val (.int x3), .val (.int x4), .val (.int x5)] [(.ref b), (.ref sa), (.ref sa)]))
  refine Go.of (fun _ q => XS.dup X2.here hx rfl (hb hby d1_117) rfl rfl q) ?_
  show Go _ _ _ _ _ _ _ (T2.setTop (mkF m 118 #[.val (.int (5 : Int32)), .val (.int x1), .val (.int x2), .val (.int x3), .val (.int x4), .val (.int x5)] [(.ref b), (.ref b), (.ref sa), (.ref sa)]))
  refine Go.of (fun _ q => XS.iconst X2.here hx rfl (hb hby d1_118) q) ?_
  show Go _ _ _ _ _ _ _ (T2.setTop (mkF m 119 #[.val (.int (5 : Int32)), .val (.int x1), .val (.int x2), .val (.int x3), .val (.int x4), .val (.int x5)] [(.int (0 : Int32)), (.ref b), (.ref b), (.ref sa), (.ref sa)]))
  refine Go.of (fun _ q => XS.iloadN X2.here hx rfl (hb hby d1_119) rfl q) ?_
  show Go _ _ _ _ _ _ _ (T2.setTop (mkF m 120 #[.val (.int (5 : Int32)), .val (.int x1), .val (.int x2), .val (.int x3), .val (.int x4), .val (.int x5)] [(.int x1), (.int (0 : Int32)), (.ref b), (.ref b), (.ref sa), (.ref sa)]))
  obtain ⟨T3, h3, X3, e3, W3, A3', st3⟩ := AF.castore A_b X2 hx hZ e2 (i := 0) ⟨rfl, by decide, by decide⟩ (g := (mkF m 120 #[.val (.int (5 : Int32)), .val (.int x1), .val (.int x2), .val (.int x3), .val (.int x4), .val (.int x5)] [(.int x1), (.int (0 : Int32)), (.ref b), (.ref b), (.ref sa), (.ref sa)])) rfl rfl (hb hby d1_120)
  refine Go.of st3 ?_
  have Zs := Nat.le_trans Zs (Nat.le_of_eq W3.size.symm)
  have Kp := Kp.wr W3 (Or.inr sz_b)
  have Od := Od.wr W3 g_b
  have E_sa := E_sa.wr W3
  have F_sa_coder := F_sa_coder.other W3 (Or.inl ne_sa_b)
  have F_sa_value := F_sa_value.other W3 (Or.inl ne_sa_b)
  have E_b := E_b.wr W3
  have A_b : AF Z h3 b k2 .char 5 (fun i => .int ((upI (fun _ => (0 : Int32)) 0 (x1.toUInt32.toUInt16.toUInt32.toInt32)) i)) := A3'.toI
  have N3 := Fr.snoc X3 N0 g_b
  show Go _ _ _ _ _ _ _ (T3.setTop (mkF m 121 #[.val (.int (5 : Int32)), .val (.int x1), .val (.int x2), .val (.int x3), .val (.int x4), .val (.int x5)] [(.ref b), (.ref sa), (.ref sa)]))
  refine Go.of (fun _ q => XS.dup X3.here hx rfl (hb hby d1_121) rfl rfl q) ?_
  show Go _ _ _ _ _ _ _ (T3.setTop (mkF m 122 #[.val (.int (5 : Int32)), .val (.int x1), .val (.int x2), .val (.int x3), .val (.int x4), .val (.int x5)] [(.ref b), (.ref b), (.ref sa), (.ref sa)]))
  refine Go.of (fun _ q => XS.iconst X3.here hx rfl (hb hby d1_122) q) ?_
  show Go _ _ _ _ _ _ _ (T3.setTop (mkF m 123 #[.val (.int (5 : Int32)), .val (.int x1), .val (.int x2), .val (.int x3), .val (.int x4), .val (.int x5)] [(.int (1 : Int32)), (.ref b), (.ref b), (.ref sa), (.ref sa)]))
  refine Go.of (fun _ q => XS.iloadN X3.here hx rfl (hb hby d1_123) rfl q) ?_
  show Go _ _ _ _ _ _ _ (T3.setTop (mkF m 124 #[.val (.int (5 : Int32)), .val (.int x1), .val (.int x2), .val (.int x3), .val (.int x4), .val (.int x5)] [(.int x2), (.int (1 : Int32)), (.ref b), (.ref b), (.ref sa), (.ref sa)]))
  obtain ⟨T4, h4, X4, e4, W4, A4', st4⟩ := AF.castore A_b X3 hx hZ e3 (i := 1) ⟨rfl, by decide, by decide⟩ (g := (mkF m 124 #[.val (.int (5 : Int32)), .val (.int x1), .val (.int x2), .val (.int x3), .val (.int x4), .val (.int x5)] [(.int x2), (.int (1 : Int32)), (.ref b), (.ref b), (.ref sa), (.ref sa)])) rfl rfl (hb hby d1_124)
  refine Go.of st4 ?_
  have Zs := Nat.le_trans Zs (Nat.le_of_eq W4.size.symm)
  have Kp := Kp.wr W4 (Or.inr sz_b)
  have Od := Od.wr W4 g_b
  have E_sa := E_sa.wr W4
  have F_sa_coder := F_sa_coder.other W4 (Or.inl ne_sa_b)
  have F_sa_value := F_sa_value.other W4 (Or.inl ne_sa_b)
  have E_b := E_b.wr W4
  have A_b : AF Z h4 b k2 .char 5 (fun i => .int ((upI (upI (fun _ => (0 : Int32)) 0 (x1.toUInt32.toUInt16.toUInt32.toInt32)) 1 (x2.toUInt32.toUInt16.toUInt32.toInt32)) i)) := A4'.toI
  have N4 := Fr.snoc X4 N3 g_b
  show Go _ _ _ _ _ _ _ (T4.setTop (mkF m 125 #[.val (.int (5 : Int32)), .val (.int x1), .val (.int x2), .val (.int x3), .val (.int x4), .val (.int x5)] [(.ref b), (.ref sa), (.ref sa)]))
  refine Go.of (fun _ q => XS.dup X4.here hx rfl (hb hby d1_125) rfl rfl q) ?_
  show Go _ _ _ _ _ _ _ (T4.setTop (mkF m 126 #[.val (.int (5 : Int32)), .val (.int x1), .val (.int x2), .val (.int x3), .val (.int x4), .val (.int x5)] [(.ref b), (.ref b), (.ref sa), (.ref sa)]))
  refine Go.of (fun _ q => XS.iconst X4.here hx rfl (hb hby d1_126) q) ?_
  show Go _ _ _ _ _ _ _ (T4.setTop (mkF m 127 #[.val (.int (5 : Int32)), .val (.int x1), .val (.int x2), .val (.int x3), .val (.int x4), .val (.int x5)] [(.int (2 : Int32)), (.ref b), (.ref b), (.ref sa), (.ref sa)]))
  refine Go.of (fun _ q => XS.iloadN X4.here hx rfl (hb hby d1_127) rfl q) ?_
  show Go _ _ _ _ _ _ _ (T4.setTop (mkF m 128 #[.val (.int (5 : Int32)), .val (.int x1), .val (.int x2), .val (.int x3), .val (.int x4), .val (.int x5)] [(.int x3), (.int (2 : Int32)), (.ref b), (.ref b), (.ref sa), (.ref sa)]))
  obtain ⟨T5, h5, X5, e5, W5, A5', st5⟩ := AF.castore A_b X4 hx hZ e4 (i := 2) ⟨rfl, by decide, by decide⟩ (g := (mkF m 128 #[.val (.int (5 : Int32)), .val (.int x1), .val (.int x2), .val (.int x3), .val (.int x4), .val (.int x5)] [(.int x3), (.int (2 : Int32)), (.ref b), (.ref b), (.ref sa), (.ref sa)])) rfl rfl (hb hby d1_128)
  refine Go.of st5 ?_
  have Zs := Nat.le_trans Zs (Nat.le_of_eq W5.size.symm)
  have Kp := Kp.wr W5 (Or.inr sz_b)
  have Od := Od.wr W5 g_b
  have E_sa := E_sa.wr W5
  have F_sa_coder := F_sa_coder.other W5 (Or.inl ne_sa_b)
  have F_sa_value := F_sa_value.other W5 (Or.inl ne_sa_b)
  have E_b := E_b.wr W5
  have A_b : AF Z h5 b k2 .char 5 (fun i => .int ((upI (upI (upI (fun _ => (0 : Int32)) 0 (x1.toUInt32.toUInt16.toUInt32.toInt32)) 1 (x2.toUInt32.toUInt16.toUInt32.toInt32)) 2 (x3.toUInt32.toUInt16.toUInt32.toInt32)) i)) := A5'.toI
  have N5 := Fr.snoc X5 N4 g_b
  show Go _ _ _ _ _ _ _ (T5.setTop (mkF m 129 #[.val (.int (5 : Int32)), .val (.int x1), .val (.int x2), .val (.int x3), .val (.int x4), .val (.int x5)] [(.ref b), (.ref sa), (.ref sa)]))
  refine Go.of (fun _ q => XS.dup X5.here hx rfl (hb hby d1_129) rfl rfl q) ?_
  show Go _ _ _ _ _ _ _ (T5.setTop (mkF m 130 #[.val (.int (5 : Int32)), .val (.int x1), .val (.int x2), .val (.int x3), .val (.int x4), .val (.int x5)] [(.ref b), (.ref b), (.ref sa), (.ref sa)]))
  refine Go.of (fun _ q => XS.iconst X5.here hx rfl (hb hby d1_130) q) ?_
  show Go _ _ _ _ _ _ _ (T5.setTop (mkF m 131 #[.val (.int (5 : Int32)), .val (.int x1), .val (.int x2), .val (.int x3), .val (.int x4), .val (.int x5)] [(.int (3 : Int32)), (.ref b), (.ref b), (.ref sa), (.ref sa)]))
  refine Go.of (fun _ q => XS.iload X5.here hx rfl (hb hby d1_131) rfl q) ?_
  show Go _ _ _ _ _ _ _ (T5.setTop (mkF m 133 #[.val (.int (5 : Int32)), .val (.int x1), .val (.int x2), .val (.int x3), .val (.int x4), .val (.int x5)] [(.int x4), (.int (3 : Int32)), (.ref b), (.ref b), (.ref sa), (.ref sa)]))
  obtain ⟨T6, h6, X6, e6, W6, A6', st6⟩ := AF.castore A_b X5 hx hZ e5 (i := 3) ⟨rfl, by decide, by decide⟩ (g := (mkF m 133 #[.val (.int (5 : Int32)), .val (.int x1), .val (.int x2), .val (.int x3), .val (.int x4), .val (.int x5)] [(.int x4), (.int (3 : Int32)), (.ref b), (.ref b), (.ref sa), (.ref sa)])) rfl rfl (hb hby d1_133)
  refine Go.of st6 ?_
  have Zs := Nat.le_trans Zs (Nat.le_of_eq W6.size.symm)
  have Kp := Kp.wr W6 (Or.inr sz_b)
  have Od := Od.wr W6 g_b
  have E_sa := E_sa.wr W6
  have F_sa_coder := F_sa_coder.other W6 (Or.inl ne_sa_b)
  have F_sa_value := F_sa_value.other W6 (Or.inl ne_sa_b)
  have E_b := E_b.wr W6
  have A_b : AF Z h6 b k2 .char 5 (fun i => .int ((upI (upI (upI (upI (fun _ => (0 : Int32)) 0 (x1.toUInt32.toUInt16.toUInt32.toInt32)) 1 (x2.toUInt32.toUInt16.toUInt32.toInt32)) 2 (x3.toUInt32.toUInt16.toUInt32.toInt32)) 3 (x4.toUInt32.toUInt16.toUInt32.toInt32)) i)) := A6'.toI
  have N6 := Fr.snoc X6 N5 g_b
  show Go _ _ _ _ _ _ _ (T6.setTop (mkF m 134 #[.val (.int (5 : Int32)), .val (.int x1), .val (.int x2), .val (.int x3), .val (.int x4), .val (.int x5)] [(.ref b), (.ref sa), (.ref sa)]))
  refine Go.of (fun _ q => XS.dup X6.here hx rfl (hb hby d1_134) rfl rfl q) ?_
  show Go _ _ _ _ _ _ _ (T6.setTop (mkF m 135 #[.val (.int (5 : Int32)), .val (.int x1), .val (.int x2), .val (.int x3), .val (.int x4), .val (.int x5)] [(.ref b), (.ref b), (.ref sa), (.ref sa)]))
  refine Go.of (fun _ q => XS.iconst X6.here hx rfl (hb hby d1_135) q) ?_
  show Go _ _ _ _ _ _ _ (T6.setTop (mkF m 136 #[.val (.int (5 : Int32)), .val (.int x1), .val (.int x2), .val (.int x3), .val (.int x4), .val (.int x5)] [(.int (4 : Int32)), (.ref b), (.ref b), (.ref sa), (.ref sa)]))
  refine Go.of (fun _ q => XS.iload X6.here hx rfl (hb hby d1_136) rfl q) ?_
  show Go _ _ _ _ _ _ _ (T6.setTop (mkF m 138 #[.val (.int (5 : Int32)), .val (.int x1), .val (.int x2), .val (.int x3), .val (.int x4), .val (.int x5)] [(.int x5), (.int (4 : Int32)), (.ref b), (.ref b), (.ref sa), (.ref sa)]))
  obtain ⟨T7, h7, X7, e7, W7, A7', st7⟩ := AF.castore A_b X6 hx hZ e6 (i := 4) ⟨rfl, by decide, by decide⟩ (g := (mkF m 138 #[.val (.int (5 : Int32)), .val (.int x1), .val (.int x2), .val (.int x3), .val (.int x4), .val (.int x5)] [(.int x5), (.int (4 : Int32)), (.ref b), (.ref b), (.ref sa), (.ref sa)])) rfl rfl (hb hby d1_138)
  refine Go.of st7 ?_
  have Zs := Nat.le_trans Zs (Nat.le_of_eq W7.size.symm)
  have Kp := Kp.wr W7 (Or.inr sz_b)
  have Od := Od.wr W7 g_b
  have E_sa := E_sa.wr W7
  have F_sa_coder := F_sa_coder.other W7 (Or.inl ne_sa_b)
  have F_sa_value := F_sa_value.other W7 (Or.inl ne_sa_b)
  have E_b := E_b.wr W7
  have A_b : AF Z h7 b k2 .char 5 (fun i => .int ((upI (upI (upI (upI (upI (fun _ => (0 : Int32)) 0 (x1.toUInt32.toUInt16.toUInt32.toInt32)) 1 (x2.toUInt32.toUInt16.toUInt32.toInt32)) 2 (x3.toUInt32.toUInt16.toUInt32.toInt32)) 3 (x4.toUInt32.toUInt16.toUInt32.toInt32)) 4 (x5.toUInt32.toUInt16.toUInt32.toInt32)) i)) := A7'.toI
  have N7 := Fr.snoc X7 N6 g_b
  show Go _ _ _ _ _ _ _ (T7.setTop (mkF m 139 #[.val (.int (5 : Int32)), .val (.int x1), .val (.int x2), .val (.int x3), .val (.int x4), .val (.int x5)] [(.ref b), (.ref sa), (.ref sa)]))
  refine Go.special X7 hx hZ (y := (⟨"java/lang/String", "<init>", "([C)V"⟩ : MethodName)) (a := sa) (argsL := [(.ref b)]) rfl hown (hw _ (List.mem_of_getElem? (i := 9) rfl)) (hw _ (List.mem_of_getElem? (i := 10) rfl)) (hw _ (List.mem_of_getElem? (i := 7) rfl)) (hw _ (List.mem_of_getElem? (i := 11) rfl)) (by decide) 1 e7 (rm2_s5 l Z a0 hw sa b k2 (upI (upI (upI (upI (upI (fun _ => (0 : Int32)) 0 (x1.toUInt32.toUInt16.toUInt32.toInt32)) 1 (x2.toUInt32.toUInt16.toUInt32.toInt32)) 2 (x3.toUInt32.toUInt16.toUInt32.toInt32)) 3 (x4.toUInt32.toUInt16.toUInt32.toInt32)) 4 (x5.toUInt32.toUInt16.toUInt32.toInt32)) .null (0 : Int32) cs h7 n0 Zs Od E_sa F_sa_value F_sa_coder g_sa A_b (Ne.symm ne_sa_b) (fun i hi => by rcases (show i = 0 ∨ i = 1 ∨ i = 2 ∨ i = 3 ∨ i = 4 by omega) with rfl | rfl | rfl | rfl | rfl <;> first | exact hc1 | exact hc2 | exact hc3 | exact hc4 | exact hc5) Scs hcs) (by decide) (by decide) (by decide) (by decide) (g := (mkF m 139 #[.val (.int (5 : Int32)), .val (.int x1), .val (.int x2), .val (.int x3), .val (.int x4), .val (.int x5)] [(.ref b), (.ref sa), (.ref sa)])) rfl (by rw [hml]; rfl) (rest := [(.ref sa)]) (lenOf pd11 rfl) rfl (by show 2 * 0 + _ ≤ _; exact Nat.le_of_eq rfl) (hb hby d1_139) ?_
  intro T8 v8 L8 X8 q8
  obtain ⟨d, kd0, rfl, Nq8, K8, f8_0, f8_1, f8_2, f8_3, f8_4⟩ := q8
  have N8 := Fr.app N7 Nq8
  have g_d : n0 ≤ d := Nat.le_trans Zs f8_0
  have sz_d : h0.size ≤ d := Nat.le_trans Kp.1 f8_0
  have ne_sa_d : sa ≠ d := Nat.ne_of_lt (Nat.lt_of_lt_of_le E_sa.lt f8_0)
  have ne_b_d : b ≠ d := Nat.ne_of_lt (Nat.lt_of_lt_of_le E_b.lt f8_0)
  have Zs := Nat.le_trans Zs K8.1
  have Kp := Kp.trans K8 (allS (P := fun x => x ∈ [] ∨ h0.size ≤ x) (Or.inr sz_sa) all0)
  have Od := Od.keep K8 (allS (P := fun x => n0 ≤ x) g_sa all0)
  have E_sa := E_sa.keep K8
  have E_b := E_b.keep K8
  have A_b := A_b.keep K8 (ninS (Ne.symm ne_sa_b) nin0)
  have F_sa_value := f8_2
  have F_sa_coder := f8_3
  have A_d := f8_4
  show Go _ _ _ _ _ _ _ (T8.setTop (mkF m 142 #[.val (.int (5 : Int32)), .val (.int x1), .val (.int x2), .val (.int x3), .val (.int x4), .val (.int x5)] [(.ref sa)]))
  refine Go.retA X8 hx hlk hret rfl rfl (hb hby d1_142) (by decide) (by decide) ?_
  exact ⟨sa, d, kd0, (fun i => own_by ((upI (upI (upI (upI (upI (fun _ => (0 : Int32)) 0 (x1.toUInt32.toUInt16.toUInt32.toInt32)) 1 (x2.toUInt32.toUInt16.toUInt32.toInt32)) 2 (x3.toUInt32.toUInt16.toUInt32.toInt32)) 3 (x4.toUInt32.toUInt16.toUInt32.toInt32)) 4 (x5.toUInt32.toUInt16.toUInt32.toInt32)) i)), rfl, N8, Kp, sz_sa, E_sa, F_sa_value, F_sa_coder, A_d⟩
theorem pd16 : parseMethodDescriptor "(ICCCCC)Ljava/lang/String;" = some ⟨[.int, .char, .char, .char, .char, .char], some (.object "java/lang/String")⟩ := by decide +kernel
theorem pd17 : parseMethodDescriptor "(Ljava/lang/String;)Z" = some ⟨[(.object "java/lang/String")], some .boolean⟩ := by decide +kernel
theorem ef_0 (m : MethodId) (x1 : Int32) (x2 : Int32) (x3 : Int32) (x4 : Int32) (x5 : Int32) (x6 : Int32) : entryFrame m #[(.int x1), (.int x2), (.int x3), (.int x4), (.int x5), (.int x6)] maxLocals = mkF m 0 #[.val (.int x1), .val (.int x2), .val (.int x3), .val (.int x4), .val (.int x5), .val (.int x6), .unset, .unset, .unset, .unset, .unset, .unset, .unset, .unset] [] := by first | (simp [entryFrame, mkF, argsToLocals, Value.category, maxLocals]; done) | rfl
def Q0 (Z : State) (x1 : Int32) (x2 : Int32) (x3 : Int32) (x4 : Int32) (x5 : Int32) (x6 : Int32) (cs : Int32) (fm : Value) (hfm : fm.isRef = true) (h0 : Heap) (n0 : Nat) (v : Option Value) (h : Heap) (vm : Vm) (L : List Loc) : Prop := v = some (.int (1 : Int32)) ∧ Fr n0 L
set_option maxRecDepth 65536 in
set_option maxHeartbeats 40000000 in
theorem rm0 (l : Launch) (Z : State) (a0 : Array Value) (hw : ∀ d ∈ tables_1, d.before a0 Z = true) (x1 : Int32) (x2 : Int32) (x3 : Int32) (x4 : Int32) (x5 : Int32) (x6 : Int32) (cs : Int32) (fm : Value) (hfm : fm.isRef = true) (h0 : Heap) (n0 : Nat) (Zs : n0 ≤ h0.size) (Od : Old Z n0 h0) (Scs : Sta Z Z.heap "java/lang/String" "COMPACT_STRINGS" "Z" (.int cs)) (hcs : ¬ cs = (0 : Int32)) (Sfm : Sta Z Z.heap "jdk/internal/util/Preconditions" "SIOOBE_FORMATTER" "Ljava/util/function/BiFunction;" fm) (hheld : Jvm.Lit.constHeld Z "java/lang/String" 7) (hcomp : Jvm.Lit.compactW.before a0 Z = true) :
    ConW l Z x code maxLocals ret room_1 #[(.int x1), (.int x2), (.int x3), (.int x4), (.int x5), (.int x6)] h0 (fun vm => vm.interned = Z.vm.interned) (Q0 Z x1 x2 x3 x4 x5 x6 cs fm hfm h0 n0) := by
  refine ConW.intro (plainFor_of_name pn4) (fun m => ef_0 m x1 x2 x3 x4 x5 x6) ?_
  intro p e s m below meth c s₁ hx hby hml0 hZ hown hnm hret hlk X0 e0 hs0 hV hS
  have hk : 0 ≤ h0.size := Nat.zero_le _
  have hml : c.maxLocals = 14 := hml0
  have N0 := Fr.nil n0
  have Kp : Keep h0 h0 [] := Keep.refl h0 _
  show GoW _ _ _ _ _ _ _ (s₁.setTop (mkF m 0 #[.val (.int x1), .val (.int x2), .val (.int x3), .val (.int x4), .val (.int x5), .val (.int x6), .unset, .unset, .unset, .unset, .unset, .unset, .unset, .unset] []))
  refine GoW.of (fun _ q => XS.iload X0.here hx rfl (hb hby at_0) rfl q) ?_
  show GoW _ _ _ _ _ _ _ (s₁.setTop (mkF m 2 #[.val (.int x1), .val (.int x2), .val (.int x3), .val (.int x4), .val (.int x5), .val (.int x6), .unset, .unset, .unset, .unset, .unset, .unset, .unset, .unset] [(.int x6)]))
  refine GoW.of (fun _ q => X0.ldcInt hx hown (mvT hZ (hw _ (List.mem_of_getElem? (i := 0) rfl))) (g := (mkF m 2 #[.val (.int x1), .val (.int x2), .val (.int x3), .val (.int x4), .val (.int x5), .val (.int x6), .unset, .unset, .unset, .unset, .unset, .unset, .unset, .unset] [(.int x6)])) rfl (hb hby at_2) _ q) ?_
  show GoW _ _ _ _ _ _ _ (s₁.setTop (mkF m 4 #[.val (.int x1), .val (.int x2), .val (.int x3), .val (.int x4), .val (.int x5), .val (.int x6), .unset, .unset, .unset, .unset, .unset, .unset, .unset, .unset] [(.int (2147483647 : Int32)), (.int x6)]))
  refine GoW.of (fun _ q => XS.iand X0.here hx rfl (hb hby at_4) rfl q) ?_
  show GoW _ _ _ _ _ _ _ (s₁.setTop (mkF m 5 #[.val (.int x1), .val (.int x2), .val (.int x3), .val (.int x4), .val (.int x5), .val (.int x6), .unset, .unset, .unset, .unset, .unset, .unset, .unset, .unset] [(.int (x6 &&& (2147483647 : Int32)))]))
  refine GoW.of (fun _ q => XS.bipush X0.here hx rfl (hb hby at_5) q) ?_
  show GoW _ _ _ _ _ _ _ (s₁.setTop (mkF m 7 #[.val (.int x1), .val (.int x2), .val (.int x3), .val (.int x4), .val (.int x5), .val (.int x6), .unset, .unset, .unset, .unset, .unset, .unset, .unset, .unset] [(.int (6 : Int32)), (.int (x6 &&& (2147483647 : Int32)))]))
  refine GoW.of (fun _ q => iremM X0 hx rfl (hb hby at_7) rfl (by decide) q) ?_
  show GoW _ _ _ _ _ _ _ (s₁.setTop (mkF m 8 #[.val (.int x1), .val (.int x2), .val (.int x3), .val (.int x4), .val (.int x5), .val (.int x6), .unset, .unset, .unset, .unset, .unset, .unset, .unset, .unset] [(.int ((x6 &&& (2147483647 : Int32)) % (6 : Int32)))]))
  refine GoW.of (fun _ q => XS.istore X0.here hx rfl (hb hby at_8) rfl (l' := #[.val (.int x1), .val (.int x2), .val (.int x3), .val (.int x4), .val (.int x5), .val (.int x6), .val (.int ((x6 &&& (2147483647 : Int32)) % (6 : Int32))), .unset, .unset, .unset, .unset, .unset, .unset, .unset]) rfl q) ?_
  rcases own_six x6 with q6 | q6 | q6 | q6 | q6 | q6
  · rw [q6]
    show GoW _ _ _ _ _ _ _ (s₁.setTop (mkF m 10 #[.val (.int x1), .val (.int x2), .val (.int x3), .val (.int x4), .val (.int x5), .val (.int x6), .val (.int (0 : Int32)), .unset, .unset, .unset, .unset, .unset, .unset, .unset] []))
    refine GoW.of (fun _ q => XS.iloadN X0.here hx rfl (hb hby at_10) rfl q) ?_
    show GoW _ _ _ _ _ _ _ (s₁.setTop (mkF m 11 #[.val (.int x1), .val (.int x2), .val (.int x3), .val (.int x4), .val (.int x5), .val (.int x6), .val (.int (0 : Int32)), .unset, .unset, .unset, .unset, .unset, .unset, .unset] [(.int x1)]))
    refine GoW.of (fun _ q => XS.sipush X0.here hx rfl (hb hby at_11) q) ?_
    show GoW _ _ _ _ _ _ _ (s₁.setTop (mkF m 14 #[.val (.int x1), .val (.int x2), .val (.int x3), .val (.int x4), .val (.int x5), .val (.int x6), .val (.int (0 : Int32)), .unset, .unset, .unset, .unset, .unset, .unset, .unset] [(.int (255 : Int32)), (.int x1)]))
    refine GoW.of (fun _ q => XS.iand X0.here hx rfl (hb hby at_14) rfl q) ?_
    show GoW _ _ _ _ _ _ _ (s₁.setTop (mkF m 15 #[.val (.int x1), .val (.int x2), .val (.int x3), .val (.int x4), .val (.int x5), .val (.int x6), .val (.int (0 : Int32)), .unset, .unset, .unset, .unset, .unset, .unset, .unset] [(.int (x1 &&& (255 : Int32)))]))
    refine GoW.of (fun _ q => XS.i2c X0.here hx rfl (hb hby at_15) rfl q) ?_
    show GoW _ _ _ _ _ _ _ (s₁.setTop (mkF m 16 #[.val (.int x1), .val (.int x2), .val (.int x3), .val (.int x4), .val (.int x5), .val (.int x6), .val (.int (0 : Int32)), .unset, .unset, .unset, .unset, .unset, .unset, .unset] [(.int ((x1 &&& (255 : Int32)).toUInt32.toUInt16.toUInt32.toInt32))]))
    refine GoW.of (fun _ q => XS.istore X0.here hx rfl (hb hby at_16) rfl (l' := #[.val (.int x1), .val (.int x2), .val (.int x3), .val (.int x4), .val (.int x5), .val (.int x6), .val (.int (0 : Int32)), .val (.int ((x1 &&& (255 : Int32)).toUInt32.toUInt16.toUInt32.toInt32)), .unset, .unset, .unset, .unset, .unset, .unset]) rfl q) ?_
    show GoW _ _ _ _ _ _ _ (s₁.setTop (mkF m 18 #[.val (.int x1), .val (.int x2), .val (.int x3), .val (.int x4), .val (.int x5), .val (.int x6), .val (.int (0 : Int32)), .val (.int ((x1 &&& (255 : Int32)).toUInt32.toUInt16.toUInt32.toInt32)), .unset, .unset, .unset, .unset, .unset, .unset] []))
    refine GoW.of (fun _ q => XS.iloadN X0.here hx rfl (hb hby at_18) rfl q) ?_
    show GoW _ _ _ _ _ _ _ (s₁.setTop (mkF m 19 #[.val (.int x1), .val (.int x2), .val (.int x3), .val (.int x4), .val (.int x5), .val (.int x6), .val (.int (0 : Int32)), .val (.int ((x1 &&& (255 : Int32)).toUInt32.toUInt16.toUInt32.toInt32)), .unset, .unset, .unset, .unset, .unset, .unset] [(.int x2)]))
    refine GoW.of (fun _ q => XS.sipush X0.here hx rfl (hb hby at_19) q) ?_
    show GoW _ _ _ _ _ _ _ (s₁.setTop (mkF m 22 #[.val (.int x1), .val (.int x2), .val (.int x3), .val (.int x4), .val (.int x5), .val (.int x6), .val (.int (0 : Int32)), .val (.int ((x1 &&& (255 : Int32)).toUInt32.toUInt16.toUInt32.toInt32)), .unset, .unset, .unset, .unset, .unset, .unset] [(.int (255 : Int32)), (.int x2)]))
    refine GoW.of (fun _ q => XS.iand X0.here hx rfl (hb hby at_22) rfl q) ?_
    show GoW _ _ _ _ _ _ _ (s₁.setTop (mkF m 23 #[.val (.int x1), .val (.int x2), .val (.int x3), .val (.int x4), .val (.int x5), .val (.int x6), .val (.int (0 : Int32)), .val (.int ((x1 &&& (255 : Int32)).toUInt32.toUInt16.toUInt32.toInt32)), .unset, .unset, .unset, .unset, .unset, .unset] [(.int (x2 &&& (255 : Int32)))]))
    refine GoW.of (fun _ q => XS.i2c X0.here hx rfl (hb hby at_23) rfl q) ?_
    show GoW _ _ _ _ _ _ _ (s₁.setTop (mkF m 24 #[.val (.int x1), .val (.int x2), .val (.int x3), .val (.int x4), .val (.int x5), .val (.int x6), .val (.int (0 : Int32)), .val (.int ((x1 &&& (255 : Int32)).toUInt32.toUInt16.toUInt32.toInt32)), .unset, .unset, .unset, .unset, .unset, .unset] [(.int ((x2 &&& (255 : Int32)).toUInt32.toUInt16.toUInt32.toInt32))]))
    refine GoW.of (fun _ q => XS.istore X0.here hx rfl (hb hby at_24) rfl (l' := #[.val (.int x1), .val (.int x2), .val (.int x3), .val (.int x4), .val (.int x5), .val (.int x6), .val (.int (0 : Int32)), .val (.int ((x1 &&& (255 : Int32)).toUInt32.toUInt16.toUInt32.toInt32)), .val (.int ((x2 &&& (255 : Int32)).toUInt32.toUInt16.toUInt32.toInt32)), .unset, .unset, .unset, .unset, .unset]) rfl q) ?_
    show GoW _ _ _ _ _ _ _ (s₁.setTop (mkF m 26 #[.val (.int x1), .val (.int x2), .val (.int x3), .val (.int x4), .val (.int x5), .val (.int x6), .val (.int (0 : Int32)), .val (.int ((x1 &&& (255 : Int32)).toUInt32.toUInt16.toUInt32.toInt32)), .val (.int ((x2 &&& (255 : Int32)).toUInt32.toUInt16.toUInt32.toInt32)), .unset, .unset, .unset, .unset, .unset] []))
    refine GoW.of (fun _ q => XS.iloadN X0.here hx rfl (hb hby at_26) rfl q) ?_
    show GoW _ _ _ _ _ _ _ (s₁.setTop (mkF m 27 #[.val (.int x1), .val (.int x2), .val (.int x3), .val (.int x4), .val (.int x5), .val (.int x6), .val (.int (0 : Int32)), .val (.int ((x1 &&& (255 : Int32)).toUInt32.toUInt16.toUInt32.toInt32)), .val (.int ((x2 &&& (255 : Int32)).toUInt32.toUInt16.toUInt32.toInt32)), .unset, .unset, .unset, .unset, .unset] [(.int x3)]))
    refine GoW.of (fun _ q => XS.sipush X0.here hx rfl (hb hby at_27) q) ?_
    show GoW _ _ _ _ _ _ _ (s₁.setTop (mkF m 30 #[.val (.int x1), .val (.int x2), .val (.int x3), .val (.int x4), .val (.int x5), .val (.int x6), .val (.int (0 : Int32)), .val (.int ((x1 &&& (255 : Int32)).toUInt32.toUInt16.toUInt32.toInt32)), .val (.int ((x2 &&& (255 : Int32)).toUInt32.toUInt16.toUInt32.toInt32)), .unset, .unset, .unset, .unset, .unset] [(.int (255 : Int32)), (.int x3)]))
    refine GoW.of (fun _ q => XS.iand X0.here hx rfl (hb hby at_30) rfl q) ?_
    show GoW _ _ _ _ _ _ _ (s₁.setTop (mkF m 31 #[.val (.int x1), .val (.int x2), .val (.int x3), .val (.int x4), .val (.int x5), .val (.int x6), .val (.int (0 : Int32)), .val (.int ((x1 &&& (255 : Int32)).toUInt32.toUInt16.toUInt32.toInt32)), .val (.int ((x2 &&& (255 : Int32)).toUInt32.toUInt16.toUInt32.toInt32)), .unset, .unset, .unset, .unset, .unset] [(.int (x3 &&& (255 : Int32)))]))
    refine GoW.of (fun _ q => XS.i2c X0.here hx rfl (hb hby at_31) rfl q) ?_
    show GoW _ _ _ _ _ _ _ (s₁.setTop (mkF m 32 #[.val (.int x1), .val (.int x2), .val (.int x3), .val (.int x4), .val (.int x5), .val (.int x6), .val (.int (0 : Int32)), .val (.int ((x1 &&& (255 : Int32)).toUInt32.toUInt16.toUInt32.toInt32)), .val (.int ((x2 &&& (255 : Int32)).toUInt32.toUInt16.toUInt32.toInt32)), .unset, .unset, .unset, .unset, .unset] [(.int ((x3 &&& (255 : Int32)).toUInt32.toUInt16.toUInt32.toInt32))]))
    refine GoW.of (fun _ q => XS.istore X0.here hx rfl (hb hby at_32) rfl (l' := #[.val (.int x1), .val (.int x2), .val (.int x3), .val (.int x4), .val (.int x5), .val (.int x6), .val (.int (0 : Int32)), .val (.int ((x1 &&& (255 : Int32)).toUInt32.toUInt16.toUInt32.toInt32)), .val (.int ((x2 &&& (255 : Int32)).toUInt32.toUInt16.toUInt32.toInt32)), .val (.int ((x3 &&& (255 : Int32)).toUInt32.toUInt16.toUInt32.toInt32)), .unset, .unset, .unset, .unset]) rfl q) ?_
    show GoW _ _ _ _ _ _ _ (s₁.setTop (mkF m 34 #[.val (.int x1), .val (.int x2), .val (.int x3), .val (.int x4), .val (.int x5), .val (.int x6), .val (.int (0 : Int32)), .val (.int ((x1 &&& (255 : Int32)).toUInt32.toUInt16.toUInt32.toInt32)), .val (.int ((x2 &&& (255 : Int32)).toUInt32.toUInt16.toUInt32.toInt32)), .val (.int ((x3 &&& (255 : Int32)).toUInt32.toUInt16.toUInt32.toInt32)), .unset, .unset, .unset, .unset] []))
    refine GoW.of (fun _ q => XS.iloadN X0.here hx rfl (hb hby at_34) rfl q) ?_
    show GoW _ _ _ _ _ _ _ (s₁.setTop (mkF m 35 #[.val (.int x1), .val (.int x2), .val (.int x3), .val (.int x4), .val (.int x5), .val (.int x6), .val (.int (0 : Int32)), .val (.int ((x1 &&& (255 : Int32)).toUInt32.toUInt16.toUInt32.toInt32)), .val (.int ((x2 &&& (255 : Int32)).toUInt32.toUInt16.toUInt32.toInt32)), .val (.int ((x3 &&& (255 : Int32)).toUInt32.toUInt16.toUInt32.toInt32)), .unset, .unset, .unset, .unset] [(.int x4)]))
    refine GoW.of (fun _ q => XS.sipush X0.here hx rfl (hb hby at_35) q) ?_
    show GoW _ _ _ _ _ _ _ (s₁.setTop (mkF m 38 #[.val (.int x1), .val (.int x2), .val (.int x3), .val (.int x4), .val (.int x5), .val (.int x6), .val (.int (0 : Int32)), .val (.int ((x1 &&& (255 : Int32)).toUInt32.toUInt16.toUInt32.toInt32)), .val (.int ((x2 &&& (255 : Int32)).toUInt32.toUInt16.toUInt32.toInt32)), .val (.int ((x3 &&& (255 : Int32)).toUInt32.toUInt16.toUInt32.toInt32)), .unset, .unset, .unset, .unset] [(.int (255 : Int32)), (.int x4)]))
    refine GoW.of (fun _ q => XS.iand X0.here hx rfl (hb hby at_38) rfl q) ?_
    show GoW _ _ _ _ _ _ _ (s₁.setTop (mkF m 39 #[.val (.int x1), .val (.int x2), .val (.int x3), .val (.int x4), .val (.int x5), .val (.int x6), .val (.int (0 : Int32)), .val (.int ((x1 &&& (255 : Int32)).toUInt32.toUInt16.toUInt32.toInt32)), .val (.int ((x2 &&& (255 : Int32)).toUInt32.toUInt16.toUInt32.toInt32)), .val (.int ((x3 &&& (255 : Int32)).toUInt32.toUInt16.toUInt32.toInt32)), .unset, .unset, .unset, .unset] [(.int (x4 &&& (255 : Int32)))]))
    refine GoW.of (fun _ q => XS.i2c X0.here hx rfl (hb hby at_39) rfl q) ?_
    show GoW _ _ _ _ _ _ _ (s₁.setTop (mkF m 40 #[.val (.int x1), .val (.int x2), .val (.int x3), .val (.int x4), .val (.int x5), .val (.int x6), .val (.int (0 : Int32)), .val (.int ((x1 &&& (255 : Int32)).toUInt32.toUInt16.toUInt32.toInt32)), .val (.int ((x2 &&& (255 : Int32)).toUInt32.toUInt16.toUInt32.toInt32)), .val (.int ((x3 &&& (255 : Int32)).toUInt32.toUInt16.toUInt32.toInt32)), .unset, .unset, .unset, .unset] [(.int ((x4 &&& (255 : Int32)).toUInt32.toUInt16.toUInt32.toInt32))]))
    refine GoW.of (fun _ q => XS.istore X0.here hx rfl (hb hby at_40) rfl (l' := #[.val (.int x1), .val (.int x2), .val (.int x3), .val (.int x4), .val (.int x5), .val (.int x6), .val (.int (0 : Int32)), .val (.int ((x1 &&& (255 : Int32)).toUInt32.toUInt16.toUInt32.toInt32)), .val (.int ((x2 &&& (255 : Int32)).toUInt32.toUInt16.toUInt32.toInt32)), .val (.int ((x3 &&& (255 : Int32)).toUInt32.toUInt16.toUInt32.toInt32)), .val (.int ((x4 &&& (255 : Int32)).toUInt32.toUInt16.toUInt32.toInt32)), .unset, .unset, .unset]) rfl q) ?_
    show GoW _ _ _ _ _ _ _ (s₁.setTop (mkF m 42 #[.val (.int x1), .val (.int x2), .val (.int x3), .val (.int x4), .val (.int x5), .val (.int x6), .val (.int (0 : Int32)), .val (.int ((x1 &&& (255 : Int32)).toUInt32.toUInt16.toUInt32.toInt32)), .val (.int ((x2 &&& (255 : Int32)).toUInt32.toUInt16.toUInt32.toInt32)), .val (.int ((x3 &&& (255 : Int32)).toUInt32.toUInt16.toUInt32.toInt32)), .val (.int ((x4 &&& (255 : Int32)).toUInt32.toUInt16.toUInt32.toInt32)), .unset, .unset, .unset] []))
    refine GoW.of (fun _ q => XS.iload X0.here hx rfl (hb hby at_42) rfl q) ?_
    show GoW _ _ _ _ _ _ _ (s₁.setTop (mkF m 44 #[.val (.int x1), .val (.int x2), .val (.int x3), .val (.int x4), .val (.int x5), .val (.int x6), .val (.int (0 : Int32)), .val (.int ((x1 &&& (255 : Int32)).toUInt32.toUInt16.toUInt32.toInt32)), .val (.int ((x2 &&& (255 : Int32)).toUInt32.toUInt16.toUInt32.toInt32)), .val (.int ((x3 &&& (255 : Int32)).toUInt32.toUInt16.toUInt32.toInt32)), .val (.int ((x4 &&& (255 : Int32)).toUInt32.toUInt16.toUInt32.toInt32)), .unset, .unset, .unset] [(.int x5)]))
    refine GoW.of (fun _ q => XS.sipush X0.here hx rfl (hb hby at_44) q) ?_
    show GoW _ _ _ _ _ _ _ (s₁.setTop (mkF m 47 #[.val (.int x1), .val (.int x2), .val (.int x3), .val (.int x4), .val (.int x5), .val (.int x6), .val (.int (0 : Int32)), .val (.int ((x1 &&& (255 : Int32)).toUInt32.toUInt16.toUInt32.toInt32)), .val (.int ((x2 &&& (255 : Int32)).toUInt32.toUInt16.toUInt32.toInt32)), .val (.int ((x3 &&& (255 : Int32)).toUInt32.toUInt16.toUInt32.toInt32)), .val (.int ((x4 &&& (255 : Int32)).toUInt32.toUInt16.toUInt32.toInt32)), .unset, .unset, .unset] [(.int (255 : Int32)), (.int x5)]))
    refine GoW.of (fun _ q => XS.iand X0.here hx rfl (hb hby at_47) rfl q) ?_
    show GoW _ _ _ _ _ _ _ (s₁.setTop (mkF m 48 #[.val (.int x1), .val (.int x2), .val (.int x3), .val (.int x4), .val (.int x5), .val (.int x6), .val (.int (0 : Int32)), .val (.int ((x1 &&& (255 : Int32)).toUInt32.toUInt16.toUInt32.toInt32)), .val (.int ((x2 &&& (255 : Int32)).toUInt32.toUInt16.toUInt32.toInt32)), .val (.int ((x3 &&& (255 : Int32)).toUInt32.toUInt16.toUInt32.toInt32)), .val (.int ((x4 &&& (255 : Int32)).toUInt32.toUInt16.toUInt32.toInt32)), .unset, .unset, .unset] [(.int (x5 &&& (255 : Int32)))]))
    refine GoW.of (fun _ q => XS.i2c X0.here hx rfl (hb hby at_48) rfl q) ?_
    show GoW _ _ _ _ _ _ _ (s₁.setTop (mkF m 49 #[.val (.int x1), .val (.int x2), .val (.int x3), .val (.int x4), .val (.int x5), .val (.int x6), .val (.int (0 : Int32)), .val (.int ((x1 &&& (255 : Int32)).toUInt32.toUInt16.toUInt32.toInt32)), .val (.int ((x2 &&& (255 : Int32)).toUInt32.toUInt16.toUInt32.toInt32)), .val (.int ((x3 &&& (255 : Int32)).toUInt32.toUInt16.toUInt32.toInt32)), .val (.int ((x4 &&& (255 : Int32)).toUInt32.toUInt16.toUInt32.toInt32)), .unset, .unset, .unset] [(.int ((x5 &&& (255 : Int32)).toUInt32.toUInt16.toUInt32.toInt32))]))
    refine GoW.of (fun _ q => XS.istore X0.here hx rfl (hb hby at_49) rfl (l' := #[.val (.int x1), .val (.int x2), .val (.int x3), .val (.int x4), .val (.int x5), .val (.int x6), .val (.int (0 : Int32)), .val (.int ((x1 &&& (255 : Int32)).toUInt32.toUInt16.toUInt32.toInt32)), .val (.int ((x2 &&& (255 : Int32)).toUInt32.toUInt16.toUInt32.toInt32)), .val (.int ((x3 &&& (255 : Int32)).toUInt32.toUInt16.toUInt32.toInt32)), .val (.int ((x4 &&& (255 : Int32)).toUInt32.toUInt16.toUInt32.toInt32)), .val (.int ((x5 &&& (255 : Int32)).toUInt32.toUInt16.toUInt32.toInt32)), .unset, .unset]) rfl q) ?_
    show GoW _ _ _ _ _ _ _ (s₁.setTop (mkF m 51 #[.val (.int x1), .val (.int x2), .val (.int x3), .val (.int x4), .val (.int x5), .val (.int x6), .val (.int (0 : Int32)), .val (.int ((x1 &&& (255 : Int32)).toUInt32.toUInt16.toUInt32.toInt32)), .val (.int ((x2 &&& (255 : Int32)).toUInt32.toUInt16.toUInt32.toInt32)), .val (.int ((x3 &&& (255 : Int32)).toUInt32.toUInt16.toUInt32.toInt32)), .val (.int ((x4 &&& (255 : Int32)).toUInt32.toUInt16.toUInt32.toInt32)), .val (.int ((x5 &&& (255 : Int32)).toUInt32.toUInt16.toUInt32.toInt32)), .unset, .unset] []))
    refine GoW.of (fun _ q => XS.iload X0.here hx rfl (hb hby at_51) rfl q) ?_
    show GoW _ _ _ _ _ _ _ (s₁.setTop (mkF m 53 #[.val (.int x1), .val (.int x2), .val (.int x3), .val (.int x4), .val (.int x5), .val (.int x6), .val (.int (0 : Int32)), .val (.int ((x1 &&& (255 : Int32)).toUInt32.toUInt16.toUInt32.toInt32)), .val (.int ((x2 &&& (255 : Int32)).toUInt32.toUInt16.toUInt32.toInt32)), .val (.int ((x3 &&& (255 : Int32)).toUInt32.toUInt16.toUInt32.toInt32)), .val (.int ((x4 &&& (255 : Int32)).toUInt32.toUInt16.toUInt32.toInt32)), .val (.int ((x5 &&& (255 : Int32)).toUInt32.toUInt16.toUInt32.toInt32)), .unset, .unset] [(.int (0 : Int32))]))
    refine GoW.of (fun _ q => XS.iload X0.here hx rfl (hb hby at_53) rfl q) ?_
    show GoW _ _ _ _ _ _ _ (s₁.setTop (mkF m 55 #[.val (.int x1), .val (.int x2), .val (.int x3), .val (.int x4), .val (.int x5), .val (.int x6), .val (.int (0 : Int32)), .val (.int ((x1 &&& (255 : Int32)).toUInt32.toUInt16.toUInt32.toInt32)), .val (.int ((x2 &&& (255 : Int32)).toUInt32.toUInt16.toUInt32.toInt32)), .val (.int ((x3 &&& (255 : Int32)).toUInt32.toUInt16.toUInt32.toInt32)), .val (.int ((x4 &&& (255 : Int32)).toUInt32.toUInt16.toUInt32.toInt32)), .val (.int ((x5 &&& (255 : Int32)).toUInt32.toUInt16.toUInt32.toInt32)), .unset, .unset] [(.int ((x1 &&& (255 : Int32)).toUInt32.toUInt16.toUInt32.toInt32)), (.int (0 : Int32))]))
    refine GoW.of (fun _ q => XS.iload X0.here hx rfl (hb hby at_55) rfl q) ?_
    show GoW _ _ _ _ _ _ _ (s₁.setTop (mkF m 57 #[.val (.int x1), .val (.int x2), .val (.int x3), .val (.int x4), .val (.int x5), .val (.int x6), .val (.int (0 : Int32)), .val (.int ((x1 &&& (255 : Int32)).toUInt32.toUInt16.toUInt32.toInt32)), .val (.int ((x2 &&& (255 : Int32)).toUInt32.toUInt16.toUInt32.toInt32)), .val (.int ((x3 &&& (255 : Int32)).toUInt32.toUInt16.toUInt32.toInt32)), .val (.int ((x4 &&& (255 : Int32)).toUInt32.toUInt16.toUInt32.toInt32)), .val (.int ((x5 &&& (255 : Int32)).toUInt32.toUInt16.toUInt32.toInt32)), .unset, .unset] [(.int ((x2 &&& (255 : Int32)).toUInt32.toUInt16.toUInt32.toInt32)), (.int ((x1 &&& (255 : Int32)).toUInt32.toUInt16.toUInt32.toInt32)), (.int (0 : Int32))]))
    refine GoW.of (fun _ q => XS.iload X0.here hx rfl (hb hby at_57) rfl q) ?_
    show GoW _ _ _ _ _ _ _ (s₁.setTop (mkF m 59 #[.val (.int x1), .val (.int x2), .val (.int x3), .val (.int x4), .val (.int x5), .val (.int x6), .val (.int (0 : Int32)), .val (.int ((x1 &&& (255 : Int32)).toUInt32.toUInt16.toUInt32.toInt32)), .val (.int ((x2 &&& (255 : Int32)).toUInt32.toUInt16.toUInt32.toInt32)), .val (.int ((x3 &&& (255 : Int32)).toUInt32.toUInt16.toUInt32.toInt32)), .val (.int ((x4 &&& (255 : Int32)).toUInt32.toUInt16.toUInt32.toInt32)), .val (.int ((x5 &&& (255 : Int32)).toUInt32.toUInt16.toUInt32.toInt32)), .unset, .unset] [(.int ((x3 &&& (255 : Int32)).toUInt32.toUInt16.toUInt32.toInt32)), (.int ((x2 &&& (255 : Int32)).toUInt32.toUInt16.toUInt32.toInt32)), (.int ((x1 &&& (255 : Int32)).toUInt32.toUInt16.toUInt32.toInt32)), (.int (0 : Int32))]))
    refine GoW.of (fun _ q => XS.iload X0.here hx rfl (hb hby at_59) rfl q) ?_
    show GoW _ _ _ _ _ _ _ (s₁.setTop (mkF m 61 #[.val (.int x1), .val (.int x2), .val (.int x3), .val (.int x4), .val (.int x5), .val (.int x6), .val (.int (0 : Int32)), .val (.int ((x1 &&& (255 : Int32)).toUInt32.toUInt16.toUInt32.toInt32)), .val (.int ((x2 &&& (255 : Int32)).toUInt32.toUInt16.toUInt32.toInt32)), .val (.int ((x3 &&& (255 : Int32)).toUInt32.toUInt16.toUInt32.toInt32)), .val (.int ((x4 &&& (255 : Int32)).toUInt32.toUInt16.toUInt32.toInt32)), .val (.int ((x5 &&& (255 : Int32)).toUInt32.toUInt16.toUInt32.toInt32)), .unset, .unset] [(.int ((x4 &&& (255 : Int32)).toUInt32.toUInt16.toUInt32.toInt32)), (.int ((x3 &&& (255 : Int32)).toUInt32.toUInt16.toUInt32.toInt32)), (.int ((x2 &&& (255 : Int32)).toUInt32.toUInt16.toUInt32.toInt32)), (.int ((x1 &&& (255 : Int32)).toUInt32.toUInt16.toUInt32.toInt32)), (.int (0 : Int32))]))
    refine GoW.of (fun _ q => XS.iload X0.here hx rfl (hb hby at_61) rfl q) ?_
    show GoW _ _ _ _ _ _ _ (s₁.setTop (mkF m 63 #[.val (.int x1), .val (.int x2), .val (.int x3), .val (.int x4), .val (.int x5), .val (.int x6), .val (.int (0 : Int32)), .val (.int ((x1 &&& (255 : Int32)).toUInt32.toUInt16.toUInt32.toInt32)), .val (.int ((x2 &&& (255 : Int32)).toUInt32.toUInt16.toUInt32.toInt32)), .val (.int ((x3 &&& (255 : Int32)).toUInt32.toUInt16.toUInt32.toInt32)), .val (.int ((x4 &&& (255 : Int32)).toUInt32.toUInt16.toUInt32.toInt32)), .val (.int ((x5 &&& (255 : Int32)).toUInt32.toUInt16.toUInt32.toInt32)), .unset, .unset] [(.int ((x5 &&& (255 : Int32)).toUInt32.toUInt16.toUInt32.toInt32)), (.int ((x4 &&& (255 : Int32)).toUInt32.toUInt16.toUInt32.toInt32)), (.int ((x3 &&& (255 : Int32)).toUInt32.toUInt16.toUInt32.toInt32)), (.int ((x2 &&& (255 : Int32)).toUInt32.toUInt16.toUInt32.toInt32)), (.int ((x1 &&& (255 : Int32)).toUInt32.toUInt16.toUInt32.toInt32)), (.int (0 : Int32))]))
    refine GoW.staticW X0 hS hk hx hZ (y := (⟨"com/example/ddos_fee_ledger/ddosfeeledger/MoneyIsCurrencyPinLaw", "make", "(ICCCCC)Ljava/lang/String;"⟩ : MethodName)) (argsL := [(.int (0 : Int32)), (.int ((x1 &&& (255 : Int32)).toUInt32.toUInt16.toUInt32.toInt32)), (.int ((x2 &&& (255 : Int32)).toUInt32.toUInt16.toUInt32.toInt32)), (.int ((x3 &&& (255 : Int32)).toUInt32.toUInt16.toUInt32.toInt32)), (.int ((x4 &&& (255 : Int32)).toUInt32.toUInt16.toUInt32.toInt32)), (.int ((x5 &&& (255 : Int32)).toUInt32.toUInt16.toUInt32.toInt32))]) hown (hw _ (List.mem_of_getElem? (i := 1) rfl)) (hw _ (List.mem_of_getElem? (i := 2) rfl)) (hw _ (List.mem_of_getElem? (i := 3) rfl)) (hw _ (List.mem_of_getElem? (i := 4) rfl)) (by decide) 0 e0 (fun vm₁ hW => hW.interned_eq.trans hV) (rm1_0 l Z a0 hw ((x1 &&& (255 : Int32)).toUInt32.toUInt16.toUInt32.toInt32) ((x2 &&& (255 : Int32)).toUInt32.toUInt16.toUInt32.toInt32) ((x3 &&& (255 : Int32)).toUInt32.toUInt16.toUInt32.toInt32) ((x4 &&& (255 : Int32)).toUInt32.toUInt16.toUInt32.toInt32) ((x5 &&& (255 : Int32)).toUInt32.toUInt16.toUInt32.toInt32) h0 n0 Zs Od hheld hcomp) (by decide) (by decide) (by decide) (by decide) (g := (mkF m 63 #[.val (.int x1), .val (.int x2), .val (.int x3), .val (.int x4), .val (.int x5), .val (.int x6), .val (.int (0 : Int32)), .val (.int ((x1 &&& (255 : Int32)).toUInt32.toUInt16.toUInt32.toInt32)), .val (.int ((x2 &&& (255 : Int32)).toUInt32.toUInt16.toUInt32.toInt32)), .val (.int ((x3 &&& (255 : Int32)).toUInt32.toUInt16.toUInt32.toInt32)), .val (.int ((x4 &&& (255 : Int32)).toUInt32.toUInt16.toUInt32.toInt32)), .val (.int ((x5 &&& (255 : Int32)).toUInt32.toUInt16.toUInt32.toInt32)), .unset, .unset] [(.int ((x5 &&& (255 : Int32)).toUInt32.toUInt16.toUInt32.toInt32)), (.int ((x4 &&& (255 : Int32)).toUInt32.toUInt16.toUInt32.toInt32)), (.int ((x3 &&& (255 : Int32)).toUInt32.toUInt16.toUInt32.toInt32)), (.int ((x2 &&& (255 : Int32)).toUInt32.toUInt16.toUInt32.toInt32)), (.int ((x1 &&& (255 : Int32)).toUInt32.toUInt16.toUInt32.toInt32)), (.int (0 : Int32))])) rfl (by rw [hml]; rfl) (rest := []) (lenOf pd16 rfl) rfl (by show 2 * 0 + _ ≤ _; exact Nat.le_of_eq rfl) (hb hby at_63) ?_
    intro T1 v1 L1 X1 hS hZ hown q1
    obtain ⟨sa, d, kd0, gd0, rfl, Nq1, K1, f1_0, f1_1, f1_2, f1_3, f1_4⟩ := q1
    have N1 := Fr.app N0 Nq1
    have g_sa : n0 ≤ sa := Nat.le_trans Zs f1_0
    have sz_sa : h0.size ≤ sa := Nat.le_trans Kp.1 f1_0
    have Zs := Nat.le_trans Zs K1.1
    have Kp := Kp.trans K1 all0
    have hk := Nat.le_trans hk K1.1
    have Od := Od.keep K1 all0
    have hk := Nat.le_refl T1.heap.size
    have E_sa := f1_1
    have F_sa_value := f1_2
    have F_sa_coder := f1_3
    have A_d := f1_4
    show GoW _ _ _ _ _ _ _ (T1.setTop (mkF m 66 #[.val (.int x1), .val (.int x2), .val (.int x3), .val (.int x4), .val (.int x5), .val (.int x6), .val (.int (0 : Int32)), .val (.int ((x1 &&& (255 : Int32)).toUInt32.toUInt16.toUInt32.toInt32)), .val (.int ((x2 &&& (255 : Int32)).toUInt32.toUInt16.toUInt32.toInt32)), .val (.int ((x3 &&& (255 : Int32)).toUInt32.toUInt16.toUInt32.toInt32)), .val (.int ((x4 &&& (255 : Int32)).toUInt32.toUInt16.toUInt32.toInt32)), .val (.int ((x5 &&& (255 : Int32)).toUInt32.toUInt16.toUInt32.toInt32)), .unset, .unset] [(.ref sa)]))
    refine GoW.of (fun _ q => XS.astore X1.here hx rfl (hb hby at_66) rfl rfl (l' := #[.val (.int x1), .val (.int x2), .val (.int x3), .val (.int x4), .val (.int x5), .val (.int x6), .val (.int (0 : Int32)), .val (.int ((x1 &&& (255 : Int32)).toUInt32.toUInt16.toUInt32.toInt32)), .val (.int ((x2 &&& (255 : Int32)).toUInt32.toUInt16.toUInt32.toInt32)), .val (.int ((x3 &&& (255 : Int32)).toUInt32.toUInt16.toUInt32.toInt32)), .val (.int ((x4 &&& (255 : Int32)).toUInt32.toUInt16.toUInt32.toInt32)), .val (.int ((x5 &&& (255 : Int32)).toUInt32.toUInt16.toUInt32.toInt32)), .val (.ref sa), .unset]) rfl q) ?_
    show GoW _ _ _ _ _ _ _ (T1.setTop (mkF m 68 #[.val (.int x1), .val (.int x2), .val (.int x3), .val (.int x4), .val (.int x5), .val (.int x6), .val (.int (0 : Int32)), .val (.int ((x1 &&& (255 : Int32)).toUInt32.toUInt16.toUInt32.toInt32)), .val (.int ((x2 &&& (255 : Int32)).toUInt32.toUInt16.toUInt32.toInt32)), .val (.int ((x3 &&& (255 : Int32)).toUInt32.toUInt16.toUInt32.toInt32)), .val (.int ((x4 &&& (255 : Int32)).toUInt32.toUInt16.toUInt32.toInt32)), .val (.int ((x5 &&& (255 : Int32)).toUInt32.toUInt16.toUInt32.toInt32)), .val (.ref sa), .unset] []))
    refine GoW.of (fun _ q => XS.iload X1.here hx rfl (hb hby at_68) rfl q) ?_
    show GoW _ _ _ _ _ _ _ (T1.setTop (mkF m 70 #[.val (.int x1), .val (.int x2), .val (.int x3), .val (.int x4), .val (.int x5), .val (.int x6), .val (.int (0 : Int32)), .val (.int ((x1 &&& (255 : Int32)).toUInt32.toUInt16.toUInt32.toInt32)), .val (.int ((x2 &&& (255 : Int32)).toUInt32.toUInt16.toUInt32.toInt32)), .val (.int ((x3 &&& (255 : Int32)).toUInt32.toUInt16.toUInt32.toInt32)), .val (.int ((x4 &&& (255 : Int32)).toUInt32.toUInt16.toUInt32.toInt32)), .val (.int ((x5 &&& (255 : Int32)).toUInt32.toUInt16.toUInt32.toInt32)), .val (.ref sa), .unset] [(.int (0 : Int32))]))
    refine GoW.of (fun _ q => XS.iconst X1.here hx rfl (hb hby at_70) q) ?_
    show GoW _ _ _ _ _ _ _ (T1.setTop (mkF m 71 #[.val (.int x1), .val (.int x2), .val (.int x3), .val (.int x4), .val (.int x5), .val (.int x6), .val (.int (0 : Int32)), .val (.int ((x1 &&& (255 : Int32)).toUInt32.toUInt16.toUInt32.toInt32)), .val (.int ((x2 &&& (255 : Int32)).toUInt32.toUInt16.toUInt32.toInt32)), .val (.int ((x3 &&& (255 : Int32)).toUInt32.toUInt16.toUInt32.toInt32)), .val (.int ((x4 &&& (255 : Int32)).toUInt32.toUInt16.toUInt32.toInt32)), .val (.int ((x5 &&& (255 : Int32)).toUInt32.toUInt16.toUInt32.toInt32)), .val (.ref sa), .unset] [(.int (3 : Int32)), (.int (0 : Int32))]))
    refine GoW.of (fun _ q => XS.icmpYes X1.here hx rfl (pc0 := 71) (pc' := 102) rfl (hb hby at_71) rfl (feq (by decide)).2 (by decide) (by decide) q) ?_
    show GoW _ _ _ _ _ _ _ (T1.setTop (mkF m 102 #[.val (.int x1), .val (.int x2), .val (.int x3), .val (.int x4), .val (.int x5), .val (.int x6), .val (.int (0 : Int32)), .val (.int ((x1 &&& (255 : Int32)).toUInt32.toUInt16.toUInt32.toInt32)), .val (.int ((x2 &&& (255 : Int32)).toUInt32.toUInt16.toUInt32.toInt32)), .val (.int ((x3 &&& (255 : Int32)).toUInt32.toUInt16.toUInt32.toInt32)), .val (.int ((x4 &&& (255 : Int32)).toUInt32.toUInt16.toUInt32.toInt32)), .val (.int ((x5 &&& (255 : Int32)).toUInt32.toUInt16.toUInt32.toInt32)), .val (.ref sa), .unset] []))
    refine GoW.of (fun _ q => XS.iconst X1.here hx rfl (hb hby at_102) q) ?_
    show GoW _ _ _ _ _ _ _ (T1.setTop (mkF m 103 #[.val (.int x1), .val (.int x2), .val (.int x3), .val (.int x4), .val (.int x5), .val (.int x6), .val (.int (0 : Int32)), .val (.int ((x1 &&& (255 : Int32)).toUInt32.toUInt16.toUInt32.toInt32)), .val (.int ((x2 &&& (255 : Int32)).toUInt32.toUInt16.toUInt32.toInt32)), .val (.int ((x3 &&& (255 : Int32)).toUInt32.toUInt16.toUInt32.toInt32)), .val (.int ((x4 &&& (255 : Int32)).toUInt32.toUInt16.toUInt32.toInt32)), .val (.int ((x5 &&& (255 : Int32)).toUInt32.toUInt16.toUInt32.toInt32)), .val (.ref sa), .unset] [(.int (0 : Int32))]))
    refine GoW.of (fun _ q => XS.istore X1.here hx rfl (hb hby at_103) rfl (l' := #[.val (.int x1), .val (.int x2), .val (.int x3), .val (.int x4), .val (.int x5), .val (.int x6), .val (.int (0 : Int32)), .val (.int ((x1 &&& (255 : Int32)).toUInt32.toUInt16.toUInt32.toInt32)), .val (.int ((x2 &&& (255 : Int32)).toUInt32.toUInt16.toUInt32.toInt32)), .val (.int ((x3 &&& (255 : Int32)).toUInt32.toUInt16.toUInt32.toInt32)), .val (.int ((x4 &&& (255 : Int32)).toUInt32.toUInt16.toUInt32.toInt32)), .val (.int ((x5 &&& (255 : Int32)).toUInt32.toUInt16.toUInt32.toInt32)), .val (.ref sa), .val (.int (0 : Int32))]) rfl q) ?_
    show GoW _ _ _ _ _ _ _ (T1.setTop (mkF m 105 #[.val (.int x1), .val (.int x2), .val (.int x3), .val (.int x4), .val (.int x5), .val (.int x6), .val (.int (0 : Int32)), .val (.int ((x1 &&& (255 : Int32)).toUInt32.toUInt16.toUInt32.toInt32)), .val (.int ((x2 &&& (255 : Int32)).toUInt32.toUInt16.toUInt32.toInt32)), .val (.int ((x3 &&& (255 : Int32)).toUInt32.toUInt16.toUInt32.toInt32)), .val (.int ((x4 &&& (255 : Int32)).toUInt32.toUInt16.toUInt32.toInt32)), .val (.int ((x5 &&& (255 : Int32)).toUInt32.toUInt16.toUInt32.toInt32)), .val (.ref sa), .val (.int (0 : Int32))] []))
    refine GoW.of (fun _ q => XS.aload X1.here hx rfl (hb hby at_105) rfl rfl q) ?_
    show GoW _ _ _ _ _ _ _ (T1.setTop (mkF m 107 #[.val (.int x1), .val (.int x2), .val (.int x3), .val (.int x4), .val (.int x5), .val (.int x6), .val (.int (0 : Int32)), .val (.int ((x1 &&& (255 : Int32)).toUInt32.toUInt16.toUInt32.toInt32)), .val (.int ((x2 &&& (255 : Int32)).toUInt32.toUInt16.toUInt32.toInt32)), .val (.int ((x3 &&& (255 : Int32)).toUInt32.toUInt16.toUInt32.toInt32)), .val (.int ((x4 &&& (255 : Int32)).toUInt32.toUInt16.toUInt32.toInt32)), .val (.int ((x5 &&& (255 : Int32)).toUInt32.toUInt16.toUInt32.toInt32)), .val (.ref sa), .val (.int (0 : Int32))] [(.ref sa)]))
    refine callStatic GoW.of X1 hx hZ (y := (⟨"com/example/ddos_fee_ledger/ddosfeeledger/Money", "isCurrency", "(Ljava/lang/String;)Z"⟩ : MethodName)) (argsL := [(.ref sa)]) hown (hw _ (List.mem_of_getElem? (i := 38) rfl)) (hw _ (List.mem_of_getElem? (i := 39) rfl)) (hw _ (List.mem_of_getElem? (i := 40) rfl)) (hw _ (List.mem_of_getElem? (i := 41) rfl)) (by decide) 0 rfl (rm9_0 l Z a0 hw sa d kd0 gd0 cs T1.heap n0 Zs Od E_sa F_sa_value F_sa_coder A_d Scs hcs) (by decide) (by decide) (by decide) (by decide) (g := (mkF m 107 #[.val (.int x1), .val (.int x2), .val (.int x3), .val (.int x4), .val (.int x5), .val (.int x6), .val (.int (0 : Int32)), .val (.int ((x1 &&& (255 : Int32)).toUInt32.toUInt16.toUInt32.toInt32)), .val (.int ((x2 &&& (255 : Int32)).toUInt32.toUInt16.toUInt32.toInt32)), .val (.int ((x3 &&& (255 : Int32)).toUInt32.toUInt16.toUInt32.toInt32)), .val (.int ((x4 &&& (255 : Int32)).toUInt32.toUInt16.toUInt32.toInt32)), .val (.int ((x5 &&& (255 : Int32)).toUInt32.toUInt16.toUInt32.toInt32)), .val (.ref sa), .val (.int (0 : Int32))] [(.ref sa)])) rfl (by rw [hml]; rfl) (rest := []) (lenOf pd17 rfl) rfl (by show 2 * 0 + _ ≤ _; exact Nat.le_of_eq rfl) (hb hby at_107) ?_
    intro T2 v2 L2 X2 q2
    obtain ⟨rfl, Nq2, e2⟩ := q2
    have N2 := Fr.app N1 Nq2
    show GoW _ _ _ _ _ _ _ (T2.setTop (mkF m 110 #[.val (.int x1), .val (.int x2), .val (.int x3), .val (.int x4), .val (.int x5), .val (.int x6), .val (.int (0 : Int32)), .val (.int ((x1 &&& (255 : Int32)).toUInt32.toUInt16.toUInt32.toInt32)), .val (.int ((x2 &&& (255 : Int32)).toUInt32.toUInt16.toUInt32.toInt32)), .val (.int ((x3 &&& (255 : Int32)).toUInt32.toUInt16.toUInt32.toInt32)), .val (.int ((x4 &&& (255 : Int32)).toUInt32.toUInt16.toUInt32.toInt32)), .val (.int ((x5 &&& (255 : Int32)).toUInt32.toUInt16.toUInt32.toInt32)), .val (.ref sa), .val (.int (0 : Int32))] [(.int (0 : Int32))]))
    refine GoW.of (fun _ q => XS.iload X2.here hx rfl (hb hby at_110) rfl q) ?_
    show GoW _ _ _ _ _ _ _ (T2.setTop (mkF m 112 #[.val (.int x1), .val (.int x2), .val (.int x3), .val (.int x4), .val (.int x5), .val (.int x6), .val (.int (0 : Int32)), .val (.int ((x1 &&& (255 : Int32)).toUInt32.toUInt16.toUInt32.toInt32)), .val (.int ((x2 &&& (255 : Int32)).toUInt32.toUInt16.toUInt32.toInt32)), .val (.int ((x3 &&& (255 : Int32)).toUInt32.toUInt16.toUInt32.toInt32)), .val (.int ((x4 &&& (255 : Int32)).toUInt32.toUInt16.toUInt32.toInt32)), .val (.int ((x5 &&& (255 : Int32)).toUInt32.toUInt16.toUInt32.toInt32)), .val (.ref sa), .val (.int (0 : Int32))] [(.int (0 : Int32)), (.int (0 : Int32))]))
    refine GoW.of (fun _ q => XS.icmpNo X2.here hx rfl (hb hby at_112) rfl (teq rfl).2 q) ?_
    show GoW _ _ _ _ _ _ _ (T2.setTop (mkF m 115 #[.val (.int x1), .val (.int x2), .val (.int x3), .val (.int x4), .val (.int x5), .val (.int x6), .val (.int (0 : Int32)), .val (.int ((x1 &&& (255 : Int32)).toUInt32.toUInt16.toUInt32.toInt32)), .val (.int ((x2 &&& (255 : Int32)).toUInt32.toUInt16.toUInt32.toInt32)), .val (.int ((x3 &&& (255 : Int32)).toUInt32.toUInt16.toUInt32.toInt32)), .val (.int ((x4 &&& (255 : Int32)).toUInt32.toUInt16.toUInt32.toInt32)), .val (.int ((x5 &&& (255 : Int32)).toUInt32.toUInt16.toUInt32.toInt32)), .val (.ref sa), .val (.int (0 : Int32))] []))
    refine GoW.of (fun _ q => XS.iconst X2.here hx rfl (hb hby at_115) q) ?_
    show GoW _ _ _ _ _ _ _ (T2.setTop (mkF m 116 #[.val (.int x1), .val (.int x2), .val (.int x3), .val (.int x4), .val (.int x5), .val (.int x6), .val (.int (0 : Int32)), .val (.int ((x1 &&& (255 : Int32)).toUInt32.toUInt16.toUInt32.toInt32)), .val (.int ((x2 &&& (255 : Int32)).toUInt32.toUInt16.toUInt32.toInt32)), .val (.int ((x3 &&& (255 : Int32)).toUInt32.toUInt16.toUInt32.toInt32)), .val (.int ((x4 &&& (255 : Int32)).toUInt32.toUInt16.toUInt32.toInt32)), .val (.int ((x5 &&& (255 : Int32)).toUInt32.toUInt16.toUInt32.toInt32)), .val (.ref sa), .val (.int (0 : Int32))] [(.int (1 : Int32))]))
    refine GoW.of (fun _ q => XS.goto X2.here hx rfl (pc0 := 116) (pc' := 120) rfl (hb hby at_116) (by decide) (by decide) q) ?_
    show GoW _ _ _ _ _ _ _ (T2.setTop (mkF m 120 #[.val (.int x1), .val (.int x2), .val (.int x3), .val (.int x4), .val (.int x5), .val (.int x6), .val (.int (0 : Int32)), .val (.int ((x1 &&& (255 : Int32)).toUInt32.toUInt16.toUInt32.toInt32)), .val (.int ((x2 &&& (255 : Int32)).toUInt32.toUInt16.toUInt32.toInt32)), .val (.int ((x3 &&& (255 : Int32)).toUInt32.toUInt16.toUInt32.toInt32)), .val (.int ((x4 &&& (255 : Int32)).toUInt32.toUInt16.toUInt32.toInt32)), .val (.int ((x5 &&& (255 : Int32)).toUInt32.toUInt16.toUInt32.toInt32)), .val (.ref sa), .val (.int (0 : Int32))] [(.int (1 : Int32))]))
    refine GoW.retN X2 hS (by rw [e2]; exact hk) hx hlk (t := .boolean) hret (by simp) (hb hby at_120) rfl (by decide) (by decide) ?_
    rw [e2]
    exact ⟨rfl, N2⟩
  · rw [q6]
    show GoW _ _ _ _ _ _ _ (s₁.setTop (mkF m 10 #[.val (.int x1), .val (.int x2), .val (.int x3), .val (.int x4), .val (.int x5), .val (.int x6), .val (.int (1 : Int32)), .unset, .unset, .unset, .unset, .unset, .unset, .unset] []))
    refine GoW.of (fun _ q => XS.iloadN X0.here hx rfl (hb hby at_10) rfl q) ?_
    show GoW _ _ _ _ _ _ _ (s₁.setTop (mkF m 11 #[.val (.int x1), .val (.int x2), .val (.int x3), .val (.int x4), .val (.int x5), .val (.int x6), .val (.int (1 : Int32)), .unset, .unset, .unset, .unset, .unset, .unset, .unset] [(.int x1)]))
    refine GoW.of (fun _ q => XS.sipush X0.here hx rfl (hb hby at_11) q) ?_
    show GoW _ _ _ _ _ _ _ (s₁.setTop (mkF m 14 #[.val (.int x1), .val (.int x2), .val (.int x3), .val (.int x4), .val (.int x5), .val (.int x6), .val (.int (1 : Int32)), .unset, .unset, .unset, .unset, .unset, .unset, .unset] [(.int (255 : Int32)), (.int x1)]))
    refine GoW.of (fun _ q => XS.iand X0.here hx rfl (hb hby at_14) rfl q) ?_
    show GoW _ _ _ _ _ _ _ (s₁.setTop (mkF m 15 #[.val (.int x1), .val (.int x2), .val (.int x3), .val (.int x4), .val (.int x5), .val (.int x6), .val (.int (1 : Int32)), .unset, .unset, .unset, .unset, .unset, .unset, .unset] [(.int (x1 &&& (255 : Int32)))]))
    refine GoW.of (fun _ q => XS.i2c X0.here hx rfl (hb hby at_15) rfl q) ?_
    show GoW _ _ _ _ _ _ _ (s₁.setTop (mkF m 16 #[.val (.int x1), .val (.int x2), .val (.int x3), .val (.int x4), .val (.int x5), .val (.int x6), .val (.int (1 : Int32)), .unset, .unset, .unset, .unset, .unset, .unset, .unset] [(.int ((x1 &&& (255 : Int32)).toUInt32.toUInt16.toUInt32.toInt32))]))
    refine GoW.of (fun _ q => XS.istore X0.here hx rfl (hb hby at_16) rfl (l' := #[.val (.int x1), .val (.int x2), .val (.int x3), .val (.int x4), .val (.int x5), .val (.int x6), .val (.int (1 : Int32)), .val (.int ((x1 &&& (255 : Int32)).toUInt32.toUInt16.toUInt32.toInt32)), .unset, .unset, .unset, .unset, .unset, .unset]) rfl q) ?_
    show GoW _ _ _ _ _ _ _ (s₁.setTop (mkF m 18 #[.val (.int x1), .val (.int x2), .val (.int x3), .val (.int x4), .val (.int x5), .val (.int x6), .val (.int (1 : Int32)), .val (.int ((x1 &&& (255 : Int32)).toUInt32.toUInt16.toUInt32.toInt32)), .unset, .unset, .unset, .unset, .unset, .unset] []))
    refine GoW.of (fun _ q => XS.iloadN X0.here hx rfl (hb hby at_18) rfl q) ?_
    show GoW _ _ _ _ _ _ _ (s₁.setTop (mkF m 19 #[.val (.int x1), .val (.int x2), .val (.int x3), .val (.int x4), .val (.int x5), .val (.int x6), .val (.int (1 : Int32)), .val (.int ((x1 &&& (255 : Int32)).toUInt32.toUInt16.toUInt32.toInt32)), .unset, .unset, .unset, .unset, .unset, .unset] [(.int x2)]))
    refine GoW.of (fun _ q => XS.sipush X0.here hx rfl (hb hby at_19) q) ?_
    show GoW _ _ _ _ _ _ _ (s₁.setTop (mkF m 22 #[.val (.int x1), .val (.int x2), .val (.int x3), .val (.int x4), .val (.int x5), .val (.int x6), .val (.int (1 : Int32)), .val (.int ((x1 &&& (255 : Int32)).toUInt32.toUInt16.toUInt32.toInt32)), .unset, .unset, .unset, .unset, .unset, .unset] [(.int (255 : Int32)), (.int x2)]))
    refine GoW.of (fun _ q => XS.iand X0.here hx rfl (hb hby at_22) rfl q) ?_
    show GoW _ _ _ _ _ _ _ (s₁.setTop (mkF m 23 #[.val (.int x1), .val (.int x2), .val (.int x3), .val (.int x4), .val (.int x5), .val (.int x6), .val (.int (1 : Int32)), .val (.int ((x1 &&& (255 : Int32)).toUInt32.toUInt16.toUInt32.toInt32)), .unset, .unset, .unset, .unset, .unset, .unset] [(.int (x2 &&& (255 : Int32)))]))
    refine GoW.of (fun _ q => XS.i2c X0.here hx rfl (hb hby at_23) rfl q) ?_
    show GoW _ _ _ _ _ _ _ (s₁.setTop (mkF m 24 #[.val (.int x1), .val (.int x2), .val (.int x3), .val (.int x4), .val (.int x5), .val (.int x6), .val (.int (1 : Int32)), .val (.int ((x1 &&& (255 : Int32)).toUInt32.toUInt16.toUInt32.toInt32)), .unset, .unset, .unset, .unset, .unset, .unset] [(.int ((x2 &&& (255 : Int32)).toUInt32.toUInt16.toUInt32.toInt32))]))
    refine GoW.of (fun _ q => XS.istore X0.here hx rfl (hb hby at_24) rfl (l' := #[.val (.int x1), .val (.int x2), .val (.int x3), .val (.int x4), .val (.int x5), .val (.int x6), .val (.int (1 : Int32)), .val (.int ((x1 &&& (255 : Int32)).toUInt32.toUInt16.toUInt32.toInt32)), .val (.int ((x2 &&& (255 : Int32)).toUInt32.toUInt16.toUInt32.toInt32)), .unset, .unset, .unset, .unset, .unset]) rfl q) ?_
    show GoW _ _ _ _ _ _ _ (s₁.setTop (mkF m 26 #[.val (.int x1), .val (.int x2), .val (.int x3), .val (.int x4), .val (.int x5), .val (.int x6), .val (.int (1 : Int32)), .val (.int ((x1 &&& (255 : Int32)).toUInt32.toUInt16.toUInt32.toInt32)), .val (.int ((x2 &&& (255 : Int32)).toUInt32.toUInt16.toUInt32.toInt32)), .unset, .unset, .unset, .unset, .unset] []))
    refine GoW.of (fun _ q => XS.iloadN X0.here hx rfl (hb hby at_26) rfl q) ?_
    show GoW _ _ _ _ _ _ _ (s₁.setTop (mkF m 27 #[.val (.int x1), .val (.int x2), .val (.int x3), .val (.int x4), .val (.int x5), .val (.int x6), .val (.int (1 : Int32)), .val (.int ((x1 &&& (255 : Int32)).toUInt32.toUInt16.toUInt32.toInt32)), .val (.int ((x2 &&& (255 : Int32)).toUInt32.toUInt16.toUInt32.toInt32)), .unset, .unset, .unset, .unset, .unset] [(.int x3)]))
    refine GoW.of (fun _ q => XS.sipush X0.here hx rfl (hb hby at_27) q) ?_
    show GoW _ _ _ _ _ _ _ (s₁.setTop (mkF m 30 #[.val (.int x1), .val (.int x2), .val (.int x3), .val (.int x4), .val (.int x5), .val (.int x6), .val (.int (1 : Int32)), .val (.int ((x1 &&& (255 : Int32)).toUInt32.toUInt16.toUInt32.toInt32)), .val (.int ((x2 &&& (255 : Int32)).toUInt32.toUInt16.toUInt32.toInt32)), .unset, .unset, .unset, .unset, .unset] [(.int (255 : Int32)), (.int x3)]))
    refine GoW.of (fun _ q => XS.iand X0.here hx rfl (hb hby at_30) rfl q) ?_
    show GoW _ _ _ _ _ _ _ (s₁.setTop (mkF m 31 #[.val (.int x1), .val (.int x2), .val (.int x3), .val (.int x4), .val (.int x5), .val (.int x6), .val (.int (1 : Int32)), .val (.int ((x1 &&& (255 : Int32)).toUInt32.toUInt16.toUInt32.toInt32)), .val (.int ((x2 &&& (255 : Int32)).toUInt32.toUInt16.toUInt32.toInt32)), .unset, .unset, .unset, .unset, .unset] [(.int (x3 &&& (255 : Int32)))]))
    refine GoW.of (fun _ q => XS.i2c X0.here hx rfl (hb hby at_31) rfl q) ?_
    show GoW _ _ _ _ _ _ _ (s₁.setTop (mkF m 32 #[.val (.int x1), .val (.int x2), .val (.int x3), .val (.int x4), .val (.int x5), .val (.int x6), .val (.int (1 : Int32)), .val (.int ((x1 &&& (255 : Int32)).toUInt32.toUInt16.toUInt32.toInt32)), .val (.int ((x2 &&& (255 : Int32)).toUInt32.toUInt16.toUInt32.toInt32)), .unset, .unset, .unset, .unset, .unset] [(.int ((x3 &&& (255 : Int32)).toUInt32.toUInt16.toUInt32.toInt32))]))
    refine GoW.of (fun _ q => XS.istore X0.here hx rfl (hb hby at_32) rfl (l' := #[.val (.int x1), .val (.int x2), .val (.int x3), .val (.int x4), .val (.int x5), .val (.int x6), .val (.int (1 : Int32)), .val (.int ((x1 &&& (255 : Int32)).toUInt32.toUInt16.toUInt32.toInt32)), .val (.int ((x2 &&& (255 : Int32)).toUInt32.toUInt16.toUInt32.toInt32)), .val (.int ((x3 &&& (255 : Int32)).toUInt32.toUInt16.toUInt32.toInt32)), .unset, .unset, .unset, .unset]) rfl q) ?_
    show GoW _ _ _ _ _ _ _ (s₁.setTop (mkF m 34 #[.val (.int x1), .val (.int x2), .val (.int x3), .val (.int x4), .val (.int x5), .val (.int x6), .val (.int (1 : Int32)), .val (.int ((x1 &&& (255 : Int32)).toUInt32.toUInt16.toUInt32.toInt32)), .val (.int ((x2 &&& (255 : Int32)).toUInt32.toUInt16.toUInt32.toInt32)), .val (.int ((x3 &&& (255 : Int32)).toUInt32.toUInt16.toUInt32.toInt32)), .unset, .unset, .unset, .unset] []))
    refine GoW.of (fun _ q => XS.iloadN X0.here hx rfl (hb hby at_34) rfl q) ?_
    show GoW _ _ _ _ _ _ _ (s₁.setTop (mkF m 35 #[.val (.int x1), .val (.int x2), .val (.int x3), .val (.int x4), .val (.int x5), .val (.int x6), .val (.int (1 : Int32)), .val (.int ((x1 &&& (255 : Int32)).toUInt32.toUInt16.toUInt32.toInt32)), .val (.int ((x2 &&& (255 : Int32)).toUInt32.toUInt16.toUInt32.toInt32)), .val (.int ((x3 &&& (255 : Int32)).toUInt32.toUInt16.toUInt32.toInt32)), .unset, .unset, .unset, .unset] [(.int x4)]))
    refine GoW.of (fun _ q => XS.sipush X0.here hx rfl (hb hby at_35) q) ?_
    show GoW _ _ _ _ _ _ _ (s₁.setTop (mkF m 38 #[.val (.int x1), .val (.int x2), .val (.int x3), .val (.int x4), .val (.int x5), .val (.int x6), .val (.int (1 : Int32)), .val (.int ((x1 &&& (255 : Int32)).toUInt32.toUInt16.toUInt32.toInt32)), .val (.int ((x2 &&& (255 : Int32)).toUInt32.toUInt16.toUInt32.toInt32)), .val (.int ((x3 &&& (255 : Int32)).toUInt32.toUInt16.toUInt32.toInt32)), .unset, .unset, .unset, .unset] [(.int (255 : Int32)), (.int x4)]))
    refine GoW.of (fun _ q => XS.iand X0.here hx rfl (hb hby at_38) rfl q) ?_
    show GoW _ _ _ _ _ _ _ (s₁.setTop (mkF m 39 #[.val (.int x1), .val (.int x2), .val (.int x3), .val (.int x4), .val (.int x5), .val (.int x6), .val (.int (1 : Int32)), .val (.int ((x1 &&& (255 : Int32)).toUInt32.toUInt16.toUInt32.toInt32)), .val (.int ((x2 &&& (255 : Int32)).toUInt32.toUInt16.toUInt32.toInt32)), .val (.int ((x3 &&& (255 : Int32)).toUInt32.toUInt16.toUInt32.toInt32)), .unset, .unset, .unset, .unset] [(.int (x4 &&& (255 : Int32)))]))
    refine GoW.of (fun _ q => XS.i2c X0.here hx rfl (hb hby at_39) rfl q) ?_
    show GoW _ _ _ _ _ _ _ (s₁.setTop (mkF m 40 #[.val (.int x1), .val (.int x2), .val (.int x3), .val (.int x4), .val (.int x5), .val (.int x6), .val (.int (1 : Int32)), .val (.int ((x1 &&& (255 : Int32)).toUInt32.toUInt16.toUInt32.toInt32)), .val (.int ((x2 &&& (255 : Int32)).toUInt32.toUInt16.toUInt32.toInt32)), .val (.int ((x3 &&& (255 : Int32)).toUInt32.toUInt16.toUInt32.toInt32)), .unset, .unset, .unset, .unset] [(.int ((x4 &&& (255 : Int32)).toUInt32.toUInt16.toUInt32.toInt32))]))
    refine GoW.of (fun _ q => XS.istore X0.here hx rfl (hb hby at_40) rfl (l' := #[.val (.int x1), .val (.int x2), .val (.int x3), .val (.int x4), .val (.int x5), .val (.int x6), .val (.int (1 : Int32)), .val (.int ((x1 &&& (255 : Int32)).toUInt32.toUInt16.toUInt32.toInt32)), .val (.int ((x2 &&& (255 : Int32)).toUInt32.toUInt16.toUInt32.toInt32)), .val (.int ((x3 &&& (255 : Int32)).toUInt32.toUInt16.toUInt32.toInt32)), .val (.int ((x4 &&& (255 : Int32)).toUInt32.toUInt16.toUInt32.toInt32)), .unset, .unset, .unset]) rfl q) ?_
    show GoW _ _ _ _ _ _ _ (s₁.setTop (mkF m 42 #[.val (.int x1), .val (.int x2), .val (.int x3), .val (.int x4), .val (.int x5), .val (.int x6), .val (.int (1 : Int32)), .val (.int ((x1 &&& (255 : Int32)).toUInt32.toUInt16.toUInt32.toInt32)), .val (.int ((x2 &&& (255 : Int32)).toUInt32.toUInt16.toUInt32.toInt32)), .val (.int ((x3 &&& (255 : Int32)).toUInt32.toUInt16.toUInt32.toInt32)), .val (.int ((x4 &&& (255 : Int32)).toUInt32.toUInt16.toUInt32.toInt32)), .unset, .unset, .unset] []))
    refine GoW.of (fun _ q => XS.iload X0.here hx rfl (hb hby at_42) rfl q) ?_
    show GoW _ _ _ _ _ _ _ (s₁.setTop (mkF m 44 #[.val (.int x1), .val (.int x2), .val (.int x3), .val (.int x4), .val (.int x5), .val (.int x6), .val (.int (1 : Int32)), .val (.int ((x1 &&& (255 : Int32)).toUInt32.toUInt16.toUInt32.toInt32)), .val (.int ((x2 &&& (255 : Int32)).toUInt32.toUInt16.toUInt32.toInt32)), .val (.int ((x3 &&& (255 : Int32)).toUInt32.toUInt16.toUInt32.toInt32)), .val (.int ((x4 &&& (255 : Int32)).toUInt32.toUInt16.toUInt32.toInt32)), .unset, .unset, .unset] [(.int x5)]))
    refine GoW.of (fun _ q => XS.sipush X0.here hx rfl (hb hby at_44) q) ?_
    show GoW _ _ _ _ _ _ _ (s₁.setTop (mkF m 47 #[.val (.int x1), .val (.int x2), .val (.int x3), .val (.int x4), .val (.int x5), .val (.int x6), .val (.int (1 : Int32)), .val (.int ((x1 &&& (255 : Int32)).toUInt32.toUInt16.toUInt32.toInt32)), .val (.int ((x2 &&& (255 : Int32)).toUInt32.toUInt16.toUInt32.toInt32)), .val (.int ((x3 &&& (255 : Int32)).toUInt32.toUInt16.toUInt32.toInt32)), .val (.int ((x4 &&& (255 : Int32)).toUInt32.toUInt16.toUInt32.toInt32)), .unset, .unset, .unset] [(.int (255 : Int32)), (.int x5)]))
    refine GoW.of (fun _ q => XS.iand X0.here hx rfl (hb hby at_47) rfl q) ?_
    show GoW _ _ _ _ _ _ _ (s₁.setTop (mkF m 48 #[.val (.int x1), .val (.int x2), .val (.int x3), .val (.int x4), .val (.int x5), .val (.int x6), .val (.int (1 : Int32)), .val (.int ((x1 &&& (255 : Int32)).toUInt32.toUInt16.toUInt32.toInt32)), .val (.int ((x2 &&& (255 : Int32)).toUInt32.toUInt16.toUInt32.toInt32)), .val (.int ((x3 &&& (255 : Int32)).toUInt32.toUInt16.toUInt32.toInt32)), .val (.int ((x4 &&& (255 : Int32)).toUInt32.toUInt16.toUInt32.toInt32)), .unset, .unset, .unset] [(.int (x5 &&& (255 : Int32)))]))
    refine GoW.of (fun _ q => XS.i2c X0.here hx rfl (hb hby at_48) rfl q) ?_
    show GoW _ _ _ _ _ _ _ (s₁.setTop (mkF m 49 #[.val (.int x1), .val (.int x2), .val (.int x3), .val (.int x4), .val (.int x5), .val (.int x6), .val (.int (1 : Int32)), .val (.int ((x1 &&& (255 : Int32)).toUInt32.toUInt16.toUInt32.toInt32)), .val (.int ((x2 &&& (255 : Int32)).toUInt32.toUInt16.toUInt32.toInt32)), .val (.int ((x3 &&& (255 : Int32)).toUInt32.toUInt16.toUInt32.toInt32)), .val (.int ((x4 &&& (255 : Int32)).toUInt32.toUInt16.toUInt32.toInt32)), .unset, .unset, .unset] [(.int ((x5 &&& (255 : Int32)).toUInt32.toUInt16.toUInt32.toInt32))]))
    refine GoW.of (fun _ q => XS.istore X0.here hx rfl (hb hby at_49) rfl (l' := #[.val (.int x1), .val (.int x2), .val (.int x3), .val (.int x4), .val (.int x5), .val (.int x6), .val (.int (1 : Int32)), .val (.int ((x1 &&& (255 : Int32)).toUInt32.toUInt16.toUInt32.toInt32)), .val (.int ((x2 &&& (255 : Int32)).toUInt32.toUInt16.toUInt32.toInt32)), .val (.int ((x3 &&& (255 : Int32)).toUInt32.toUInt16.toUInt32.toInt32)), .val (.int ((x4 &&& (255 : Int32)).toUInt32.toUInt16.toUInt32.toInt32)), .val (.int ((x5 &&& (255 : Int32)).toUInt32.toUInt16.toUInt32.toInt32)), .unset, .unset]) rfl q) ?_
    show GoW _ _ _ _ _ _ _ (s₁.setTop (mkF m 51 #[.val (.int x1), .val (.int x2), .val (.int x3), .val (.int x4), .val (.int x5), .val (.int x6), .val (.int (1 : Int32)), .val (.int ((x1 &&& (255 : Int32)).toUInt32.toUInt16.toUInt32.toInt32)), .val (.int ((x2 &&& (255 : Int32)).toUInt32.toUInt16.toUInt32.toInt32)), .val (.int ((x3 &&& (255 : Int32)).toUInt32.toUInt16.toUInt32.toInt32)), .val (.int ((x4 &&& (255 : Int32)).toUInt32.toUInt16.toUInt32.toInt32)), .val (.int ((x5 &&& (255 : Int32)).toUInt32.toUInt16.toUInt32.toInt32)), .unset, .unset] []))
    refine GoW.of (fun _ q => XS.iload X0.here hx rfl (hb hby at_51) rfl q) ?_
    show GoW _ _ _ _ _ _ _ (s₁.setTop (mkF m 53 #[.val (.int x1), .val (.int x2), .val (.int x3), .val (.int x4), .val (.int x5), .val (.int x6), .val (.int (1 : Int32)), .val (.int ((x1 &&& (255 : Int32)).toUInt32.toUInt16.toUInt32.toInt32)), .val (.int ((x2 &&& (255 : Int32)).toUInt32.toUInt16.toUInt32.toInt32)), .val (.int ((x3 &&& (255 : Int32)).toUInt32.toUInt16.toUInt32.toInt32)), .val (.int ((x4 &&& (255 : Int32)).toUInt32.toUInt16.toUInt32.toInt32)), .val (.int ((x5 &&& (255 : Int32)).toUInt32.toUInt16.toUInt32.toInt32)), .unset, .unset] [(.int (1 : Int32))]))
    refine GoW.of (fun _ q => XS.iload X0.here hx rfl (hb hby at_53) rfl q) ?_
    show GoW _ _ _ _ _ _ _ (s₁.setTop (mkF m 55 #[.val (.int x1), .val (.int x2), .val (.int x3), .val (.int x4), .val (.int x5), .val (.int x6), .val (.int (1 : Int32)), .val (.int ((x1 &&& (255 : Int32)).toUInt32.toUInt16.toUInt32.toInt32)), .val (.int ((x2 &&& (255 : Int32)).toUInt32.toUInt16.toUInt32.toInt32)), .val (.int ((x3 &&& (255 : Int32)).toUInt32.toUInt16.toUInt32.toInt32)), .val (.int ((x4 &&& (255 : Int32)).toUInt32.toUInt16.toUInt32.toInt32)), .val (.int ((x5 &&& (255 : Int32)).toUInt32.toUInt16.toUInt32.toInt32)), .unset, .unset] [(.int ((x1 &&& (255 : Int32)).toUInt32.toUInt16.toUInt32.toInt32)), (.int (1 : Int32))]))
    refine GoW.of (fun _ q => XS.iload X0.here hx rfl (hb hby at_55) rfl q) ?_
    show GoW _ _ _ _ _ _ _ (s₁.setTop (mkF m 57 #[.val (.int x1), .val (.int x2), .val (.int x3), .val (.int x4), .val (.int x5), .val (.int x6), .val (.int (1 : Int32)), .val (.int ((x1 &&& (255 : Int32)).toUInt32.toUInt16.toUInt32.toInt32)), .val (.int ((x2 &&& (255 : Int32)).toUInt32.toUInt16.toUInt32.toInt32)), .val (.int ((x3 &&& (255 : Int32)).toUInt32.toUInt16.toUInt32.toInt32)), .val (.int ((x4 &&& (255 : Int32)).toUInt32.toUInt16.toUInt32.toInt32)), .val (.int ((x5 &&& (255 : Int32)).toUInt32.toUInt16.toUInt32.toInt32)), .unset, .unset] [(.int ((x2 &&& (255 : Int32)).toUInt32.toUInt16.toUInt32.toInt32)), (.int ((x1 &&& (255 : Int32)).toUInt32.toUInt16.toUInt32.toInt32)), (.int (1 : Int32))]))
    refine GoW.of (fun _ q => XS.iload X0.here hx rfl (hb hby at_57) rfl q) ?_
    show GoW _ _ _ _ _ _ _ (s₁.setTop (mkF m 59 #[.val (.int x1), .val (.int x2), .val (.int x3), .val (.int x4), .val (.int x5), .val (.int x6), .val (.int (1 : Int32)), .val (.int ((x1 &&& (255 : Int32)).toUInt32.toUInt16.toUInt32.toInt32)), .val (.int ((x2 &&& (255 : Int32)).toUInt32.toUInt16.toUInt32.toInt32)), .val (.int ((x3 &&& (255 : Int32)).toUInt32.toUInt16.toUInt32.toInt32)), .val (.int ((x4 &&& (255 : Int32)).toUInt32.toUInt16.toUInt32.toInt32)), .val (.int ((x5 &&& (255 : Int32)).toUInt32.toUInt16.toUInt32.toInt32)), .unset, .unset] [(.int ((x3 &&& (255 : Int32)).toUInt32.toUInt16.toUInt32.toInt32)), (.int ((x2 &&& (255 : Int32)).toUInt32.toUInt16.toUInt32.toInt32)), (.int ((x1 &&& (255 : Int32)).toUInt32.toUInt16.toUInt32.toInt32)), (.int (1 : Int32))]))
    refine GoW.of (fun _ q => XS.iload X0.here hx rfl (hb hby at_59) rfl q) ?_
    show GoW _ _ _ _ _ _ _ (s₁.setTop (mkF m 61 #[.val (.int x1), .val (.int x2), .val (.int x3), .val (.int x4), .val (.int x5), .val (.int x6), .val (.int (1 : Int32)), .val (.int ((x1 &&& (255 : Int32)).toUInt32.toUInt16.toUInt32.toInt32)), .val (.int ((x2 &&& (255 : Int32)).toUInt32.toUInt16.toUInt32.toInt32)), .val (.int ((x3 &&& (255 : Int32)).toUInt32.toUInt16.toUInt32.toInt32)), .val (.int ((x4 &&& (255 : Int32)).toUInt32.toUInt16.toUInt32.toInt32)), .val (.int ((x5 &&& (255 : Int32)).toUInt32.toUInt16.toUInt32.toInt32)), .unset, .unset] [(.int ((x4 &&& (255 : Int32)).toUInt32.toUInt16.toUInt32.toInt32)), (.int ((x3 &&& (255 : Int32)).toUInt32.toUInt16.toUInt32.toInt32)), (.int ((x2 &&& (255 : Int32)).toUInt32.toUInt16.toUInt32.toInt32)), (.int ((x1 &&& (255 : Int32)).toUInt32.toUInt16.toUInt32.toInt32)), (.int (1 : Int32))]))
    refine GoW.of (fun _ q => XS.iload X0.here hx rfl (hb hby at_61) rfl q) ?_
    show GoW _ _ _ _ _ _ _ (s₁.setTop (mkF m 63 #[.val (.int x1), .val (.int x2), .val (.int x3), .val (.int x4), .val (.int x5), .val (.int x6), .val (.int (1 : Int32)), .val (.int ((x1 &&& (255 : Int32)).toUInt32.toUInt16.toUInt32.toInt32)), .val (.int ((x2 &&& (255 : Int32)).toUInt32.toUInt16.toUInt32.toInt32)), .val (.int ((x3 &&& (255 : Int32)).toUInt32.toUInt16.toUInt32.toInt32)), .val (.int ((x4 &&& (255 : Int32)).toUInt32.toUInt16.toUInt32.toInt32)), .val (.int ((x5 &&& (255 : Int32)).toUInt32.toUInt16.toUInt32.toInt32)), .unset, .unset] [(.int ((x5 &&& (255 : Int32)).toUInt32.toUInt16.toUInt32.toInt32)), (.int ((x4 &&& (255 : Int32)).toUInt32.toUInt16.toUInt32.toInt32)), (.int ((x3 &&& (255 : Int32)).toUInt32.toUInt16.toUInt32.toInt32)), (.int ((x2 &&& (255 : Int32)).toUInt32.toUInt16.toUInt32.toInt32)), (.int ((x1 &&& (255 : Int32)).toUInt32.toUInt16.toUInt32.toInt32)), (.int (1 : Int32))]))
    refine callStatic GoW.of X0 hx hZ (y := (⟨"com/example/ddos_fee_ledger/ddosfeeledger/MoneyIsCurrencyPinLaw", "make", "(ICCCCC)Ljava/lang/String;"⟩ : MethodName)) (argsL := [(.int (1 : Int32)), (.int ((x1 &&& (255 : Int32)).toUInt32.toUInt16.toUInt32.toInt32)), (.int ((x2 &&& (255 : Int32)).toUInt32.toUInt16.toUInt32.toInt32)), (.int ((x3 &&& (255 : Int32)).toUInt32.toUInt16.toUInt32.toInt32)), (.int ((x4 &&& (255 : Int32)).toUInt32.toUInt16.toUInt32.toInt32)), (.int ((x5 &&& (255 : Int32)).toUInt32.toUInt16.toUInt32.toInt32))]) hown (hw _ (List.mem_of_getElem? (i := 1) rfl)) (hw _ (List.mem_of_getElem? (i := 2) rfl)) (hw _ (List.mem_of_getElem? (i := 3) rfl)) (hw _ (List.mem_of_getElem? (i := 4) rfl)) (by decide) 0 e0 (rm1_1 l Z a0 hw ((x1 &&& (255 : Int32)).toUInt32.toUInt16.toUInt32.toInt32) ((x2 &&& (255 : Int32)).toUInt32.toUInt16.toUInt32.toInt32) ((x3 &&& (255 : Int32)).toUInt32.toUInt16.toUInt32.toInt32) ((x4 &&& (255 : Int32)).toUInt32.toUInt16.toUInt32.toInt32) ((x5 &&& (255 : Int32)).toUInt32.toUInt16.toUInt32.toInt32) cs h0 n0 Zs Od (own_chr _) Scs hcs) (by decide) (by decide) (by decide) (by decide) (g := (mkF m 63 #[.val (.int x1), .val (.int x2), .val (.int x3), .val (.int x4), .val (.int x5), .val (.int x6), .val (.int (1 : Int32)), .val (.int ((x1 &&& (255 : Int32)).toUInt32.toUInt16.toUInt32.toInt32)), .val (.int ((x2 &&& (255 : Int32)).toUInt32.toUInt16.toUInt32.toInt32)), .val (.int ((x3 &&& (255 : Int32)).toUInt32.toUInt16.toUInt32.toInt32)), .val (.int ((x4 &&& (255 : Int32)).toUInt32.toUInt16.toUInt32.toInt32)), .val (.int ((x5 &&& (255 : Int32)).toUInt32.toUInt16.toUInt32.toInt32)), .unset, .unset] [(.int ((x5 &&& (255 : Int32)).toUInt32.toUInt16.toUInt32.toInt32)), (.int ((x4 &&& (255 : Int32)).toUInt32.toUInt16.toUInt32.toInt32)), (.int ((x3 &&& (255 : Int32)).toUInt32.toUInt16.toUInt32.toInt32)), (.int ((x2 &&& (255 : Int32)).toUInt32.toUInt16.toUInt32.toInt32)), (.int ((x1 &&& (255 : Int32)).toUInt32.toUInt16.toUInt32.toInt32)), (.int (1 : Int32))])) rfl (by rw [hml]; rfl) (rest := []) (lenOf pd16 rfl) rfl (by show 2 * 0 + _ ≤ _; exact Nat.le_of_eq rfl) (hb hby at_63) ?_
    intro T3 v3 L3 X3 q3
    obtain ⟨sa, d, kd0, gd0, rfl, Nq3, K3, f3_0, f3_1, f3_2, f3_3, f3_4⟩ := q3
    have N3 := Fr.app N0 Nq3
    have g_sa : n0 ≤ sa := Nat.le_trans Zs f3_0
    have sz_sa : h0.size ≤ sa := Nat.le_trans Kp.1 f3_0
    have Zs := Nat.le_trans Zs K3.1
    have Kp := Kp.trans K3 all0
    have hk := Nat.le_trans hk K3.1
    have Od := Od.keep K3 all0
    have E_sa := f3_1
    have F_sa_value := f3_2
    have F_sa_coder := f3_3
    have A_d := f3_4
    show GoW _ _ _ _ _ _ _ (T3.setTop (mkF m 66 #[.val (.int x1), .val (.int x2), .val (.int x3), .val (.int x4), .val (.int x5), .val (.int x6), .val (.int (1 : Int32)), .val (.int ((x1 &&& (255 : Int32)).toUInt32.toUInt16.toUInt32.toInt32)), .val (.int ((x2 &&& (255 : Int32)).toUInt32.toUInt16.toUInt32.toInt32)), .val (.int ((x3 &&& (255 : Int32)).toUInt32.toUInt16.toUInt32.toInt32)), .val (.int ((x4 &&& (255 : Int32)).toUInt32.toUInt16.toUInt32.toInt32)), .val (.int ((x5 &&& (255 : Int32)).toUInt32.toUInt16.toUInt32.toInt32)), .unset, .unset] [(.ref sa)]))
    refine GoW.of (fun _ q => XS.astore X3.here hx rfl (hb hby at_66) rfl rfl (l' := #[.val (.int x1), .val (.int x2), .val (.int x3), .val (.int x4), .val (.int x5), .val (.int x6), .val (.int (1 : Int32)), .val (.int ((x1 &&& (255 : Int32)).toUInt32.toUInt16.toUInt32.toInt32)), .val (.int ((x2 &&& (255 : Int32)).toUInt32.toUInt16.toUInt32.toInt32)), .val (.int ((x3 &&& (255 : Int32)).toUInt32.toUInt16.toUInt32.toInt32)), .val (.int ((x4 &&& (255 : Int32)).toUInt32.toUInt16.toUInt32.toInt32)), .val (.int ((x5 &&& (255 : Int32)).toUInt32.toUInt16.toUInt32.toInt32)), .val (.ref sa), .unset]) rfl q) ?_
    show GoW _ _ _ _ _ _ _ (T3.setTop (mkF m 68 #[.val (.int x1), .val (.int x2), .val (.int x3), .val (.int x4), .val (.int x5), .val (.int x6), .val (.int (1 : Int32)), .val (.int ((x1 &&& (255 : Int32)).toUInt32.toUInt16.toUInt32.toInt32)), .val (.int ((x2 &&& (255 : Int32)).toUInt32.toUInt16.toUInt32.toInt32)), .val (.int ((x3 &&& (255 : Int32)).toUInt32.toUInt16.toUInt32.toInt32)), .val (.int ((x4 &&& (255 : Int32)).toUInt32.toUInt16.toUInt32.toInt32)), .val (.int ((x5 &&& (255 : Int32)).toUInt32.toUInt16.toUInt32.toInt32)), .val (.ref sa), .unset] []))
    refine GoW.of (fun _ q => XS.iload X3.here hx rfl (hb hby at_68) rfl q) ?_
    show GoW _ _ _ _ _ _ _ (T3.setTop (mkF m 70 #[.val (.int x1), .val (.int x2), .val (.int x3), .val (.int x4), .val (.int x5), .val (.int x6), .val (.int (1 : Int32)), .val (.int ((x1 &&& (255 : Int32)).toUInt32.toUInt16.toUInt32.toInt32)), .val (.int ((x2 &&& (255 : Int32)).toUInt32.toUInt16.toUInt32.toInt32)), .val (.int ((x3 &&& (255 : Int32)).toUInt32.toUInt16.toUInt32.toInt32)), .val (.int ((x4 &&& (255 : Int32)).toUInt32.toUInt16.toUInt32.toInt32)), .val (.int ((x5 &&& (255 : Int32)).toUInt32.toUInt16.toUInt32.toInt32)), .val (.ref sa), .unset] [(.int (1 : Int32))]))
    refine GoW.of (fun _ q => XS.iconst X3.here hx rfl (hb hby at_70) q) ?_
    show GoW _ _ _ _ _ _ _ (T3.setTop (mkF m 71 #[.val (.int x1), .val (.int x2), .val (.int x3), .val (.int x4), .val (.int x5), .val (.int x6), .val (.int (1 : Int32)), .val (.int ((x1 &&& (255 : Int32)).toUInt32.toUInt16.toUInt32.toInt32)), .val (.int ((x2 &&& (255 : Int32)).toUInt32.toUInt16.toUInt32.toInt32)), .val (.int ((x3 &&& (255 : Int32)).toUInt32.toUInt16.toUInt32.toInt32)), .val (.int ((x4 &&& (255 : Int32)).toUInt32.toUInt16.toUInt32.toInt32)), .val (.int ((x5 &&& (255 : Int32)).toUInt32.toUInt16.toUInt32.toInt32)), .val (.ref sa), .unset] [(.int (3 : Int32)), (.int (1 : Int32))]))
    refine GoW.of (fun _ q => XS.icmpYes X3.here hx rfl (pc0 := 71) (pc' := 102) rfl (hb hby at_71) rfl (feq (by decide)).2 (by decide) (by decide) q) ?_
    show GoW _ _ _ _ _ _ _ (T3.setTop (mkF m 102 #[.val (.int x1), .val (.int x2), .val (.int x3), .val (.int x4), .val (.int x5), .val (.int x6), .val (.int (1 : Int32)), .val (.int ((x1 &&& (255 : Int32)).toUInt32.toUInt16.toUInt32.toInt32)), .val (.int ((x2 &&& (255 : Int32)).toUInt32.toUInt16.toUInt32.toInt32)), .val (.int ((x3 &&& (255 : Int32)).toUInt32.toUInt16.toUInt32.toInt32)), .val (.int ((x4 &&& (255 : Int32)).toUInt32.toUInt16.toUInt32.toInt32)), .val (.int ((x5 &&& (255 : Int32)).toUInt32.toUInt16.toUInt32.toInt32)), .val (.ref sa), .unset] []))
    refine GoW.of (fun _ q => XS.iconst X3.here hx rfl (hb hby at_102) q) ?_
    show GoW _ _ _ _ _ _ _ (T3.setTop (mkF m 103 #[.val (.int x1), .val (.int x2), .val (.int x3), .val (.int x4), .val (.int x5), .val (.int x6), .val (.int (1 : Int32)), .val (.int ((x1 &&& (255 : Int32)).toUInt32.toUInt16.toUInt32.toInt32)), .val (.int ((x2 &&& (255 : Int32)).toUInt32.toUInt16.toUInt32.toInt32)), .val (.int ((x3 &&& (255 : Int32)).toUInt32.toUInt16.toUInt32.toInt32)), .val (.int ((x4 &&& (255 : Int32)).toUInt32.toUInt16.toUInt32.toInt32)), .val (.int ((x5 &&& (255 : Int32)).toUInt32.toUInt16.toUInt32.toInt32)), .val (.ref sa), .unset] [(.int (0 : Int32))]))
    refine GoW.of (fun _ q => XS.istore X3.here hx rfl (hb hby at_103) rfl (l' := #[.val (.int x1), .val (.int x2), .val (.int x3), .val (.int x4), .val (.int x5), .val (.int x6), .val (.int (1 : Int32)), .val (.int ((x1 &&& (255 : Int32)).toUInt32.toUInt16.toUInt32.toInt32)), .val (.int ((x2 &&& (255 : Int32)).toUInt32.toUInt16.toUInt32.toInt32)), .val (.int ((x3 &&& (255 : Int32)).toUInt32.toUInt16.toUInt32.toInt32)), .val (.int ((x4 &&& (255 : Int32)).toUInt32.toUInt16.toUInt32.toInt32)), .val (.int ((x5 &&& (255 : Int32)).toUInt32.toUInt16.toUInt32.toInt32)), .val (.ref sa), .val (.int (0 : Int32))]) rfl q) ?_
    show GoW _ _ _ _ _ _ _ (T3.setTop (mkF m 105 #[.val (.int x1), .val (.int x2), .val (.int x3), .val (.int x4), .val (.int x5), .val (.int x6), .val (.int (1 : Int32)), .val (.int ((x1 &&& (255 : Int32)).toUInt32.toUInt16.toUInt32.toInt32)), .val (.int ((x2 &&& (255 : Int32)).toUInt32.toUInt16.toUInt32.toInt32)), .val (.int ((x3 &&& (255 : Int32)).toUInt32.toUInt16.toUInt32.toInt32)), .val (.int ((x4 &&& (255 : Int32)).toUInt32.toUInt16.toUInt32.toInt32)), .val (.int ((x5 &&& (255 : Int32)).toUInt32.toUInt16.toUInt32.toInt32)), .val (.ref sa), .val (.int (0 : Int32))] []))
    refine GoW.of (fun _ q => XS.aload X3.here hx rfl (hb hby at_105) rfl rfl q) ?_
    show GoW _ _ _ _ _ _ _ (T3.setTop (mkF m 107 #[.val (.int x1), .val (.int x2), .val (.int x3), .val (.int x4), .val (.int x5), .val (.int x6), .val (.int (1 : Int32)), .val (.int ((x1 &&& (255 : Int32)).toUInt32.toUInt16.toUInt32.toInt32)), .val (.int ((x2 &&& (255 : Int32)).toUInt32.toUInt16.toUInt32.toInt32)), .val (.int ((x3 &&& (255 : Int32)).toUInt32.toUInt16.toUInt32.toInt32)), .val (.int ((x4 &&& (255 : Int32)).toUInt32.toUInt16.toUInt32.toInt32)), .val (.int ((x5 &&& (255 : Int32)).toUInt32.toUInt16.toUInt32.toInt32)), .val (.ref sa), .val (.int (0 : Int32))] [(.ref sa)]))
    refine callStatic GoW.of X3 hx hZ (y := (⟨"com/example/ddos_fee_ledger/ddosfeeledger/Money", "isCurrency", "(Ljava/lang/String;)Z"⟩ : MethodName)) (argsL := [(.ref sa)]) hown (hw _ (List.mem_of_getElem? (i := 38) rfl)) (hw _ (List.mem_of_getElem? (i := 39) rfl)) (hw _ (List.mem_of_getElem? (i := 40) rfl)) (hw _ (List.mem_of_getElem? (i := 41) rfl)) (by decide) 0 rfl (rm9_1 l Z a0 hw sa d kd0 gd0 cs T3.heap n0 Zs Od E_sa F_sa_value F_sa_coder A_d Scs hcs) (by decide) (by decide) (by decide) (by decide) (g := (mkF m 107 #[.val (.int x1), .val (.int x2), .val (.int x3), .val (.int x4), .val (.int x5), .val (.int x6), .val (.int (1 : Int32)), .val (.int ((x1 &&& (255 : Int32)).toUInt32.toUInt16.toUInt32.toInt32)), .val (.int ((x2 &&& (255 : Int32)).toUInt32.toUInt16.toUInt32.toInt32)), .val (.int ((x3 &&& (255 : Int32)).toUInt32.toUInt16.toUInt32.toInt32)), .val (.int ((x4 &&& (255 : Int32)).toUInt32.toUInt16.toUInt32.toInt32)), .val (.int ((x5 &&& (255 : Int32)).toUInt32.toUInt16.toUInt32.toInt32)), .val (.ref sa), .val (.int (0 : Int32))] [(.ref sa)])) rfl (by rw [hml]; rfl) (rest := []) (lenOf pd17 rfl) rfl (by show 2 * 0 + _ ≤ _; exact Nat.le_of_eq rfl) (hb hby at_107) ?_
    intro T4 v4 L4 X4 q4
    obtain ⟨rfl, Nq4, e4⟩ := q4
    have N4 := Fr.app N3 Nq4
    show GoW _ _ _ _ _ _ _ (T4.setTop (mkF m 110 #[.val (.int x1), .val (.int x2), .val (.int x3), .val (.int x4), .val (.int x5), .val (.int x6), .val (.int (1 : Int32)), .val (.int ((x1 &&& (255 : Int32)).toUInt32.toUInt16.toUInt32.toInt32)), .val (.int ((x2 &&& (255 : Int32)).toUInt32.toUInt16.toUInt32.toInt32)), .val (.int ((x3 &&& (255 : Int32)).toUInt32.toUInt16.toUInt32.toInt32)), .val (.int ((x4 &&& (255 : Int32)).toUInt32.toUInt16.toUInt32.toInt32)), .val (.int ((x5 &&& (255 : Int32)).toUInt32.toUInt16.toUInt32.toInt32)), .val (.ref sa), .val (.int (0 : Int32))] [(.int (0 : Int32))]))
    refine GoW.of (fun _ q => XS.iload X4.here hx rfl (hb hby at_110) rfl q) ?_
    show GoW _ _ _ _ _ _ _ (T4.setTop (mkF m 112 #[.val (.int x1), .val (.int x2), .val (.int x3), .val (.int x4), .val (.int x5), .val (.int x6), .val (.int (1 : Int32)), .val (.int ((x1 &&& (255 : Int32)).toUInt32.toUInt16.toUInt32.toInt32)), .val (.int ((x2 &&& (255 : Int32)).toUInt32.toUInt16.toUInt32.toInt32)), .val (.int ((x3 &&& (255 : Int32)).toUInt32.toUInt16.toUInt32.toInt32)), .val (.int ((x4 &&& (255 : Int32)).toUInt32.toUInt16.toUInt32.toInt32)), .val (.int ((x5 &&& (255 : Int32)).toUInt32.toUInt16.toUInt32.toInt32)), .val (.ref sa), .val (.int (0 : Int32))] [(.int (0 : Int32)), (.int (0 : Int32))]))
    refine GoW.of (fun _ q => XS.icmpNo X4.here hx rfl (hb hby at_112) rfl (teq rfl).2 q) ?_
    show GoW _ _ _ _ _ _ _ (T4.setTop (mkF m 115 #[.val (.int x1), .val (.int x2), .val (.int x3), .val (.int x4), .val (.int x5), .val (.int x6), .val (.int (1 : Int32)), .val (.int ((x1 &&& (255 : Int32)).toUInt32.toUInt16.toUInt32.toInt32)), .val (.int ((x2 &&& (255 : Int32)).toUInt32.toUInt16.toUInt32.toInt32)), .val (.int ((x3 &&& (255 : Int32)).toUInt32.toUInt16.toUInt32.toInt32)), .val (.int ((x4 &&& (255 : Int32)).toUInt32.toUInt16.toUInt32.toInt32)), .val (.int ((x5 &&& (255 : Int32)).toUInt32.toUInt16.toUInt32.toInt32)), .val (.ref sa), .val (.int (0 : Int32))] []))
    refine GoW.of (fun _ q => XS.iconst X4.here hx rfl (hb hby at_115) q) ?_
    show GoW _ _ _ _ _ _ _ (T4.setTop (mkF m 116 #[.val (.int x1), .val (.int x2), .val (.int x3), .val (.int x4), .val (.int x5), .val (.int x6), .val (.int (1 : Int32)), .val (.int ((x1 &&& (255 : Int32)).toUInt32.toUInt16.toUInt32.toInt32)), .val (.int ((x2 &&& (255 : Int32)).toUInt32.toUInt16.toUInt32.toInt32)), .val (.int ((x3 &&& (255 : Int32)).toUInt32.toUInt16.toUInt32.toInt32)), .val (.int ((x4 &&& (255 : Int32)).toUInt32.toUInt16.toUInt32.toInt32)), .val (.int ((x5 &&& (255 : Int32)).toUInt32.toUInt16.toUInt32.toInt32)), .val (.ref sa), .val (.int (0 : Int32))] [(.int (1 : Int32))]))
    refine GoW.of (fun _ q => XS.goto X4.here hx rfl (pc0 := 116) (pc' := 120) rfl (hb hby at_116) (by decide) (by decide) q) ?_
    show GoW _ _ _ _ _ _ _ (T4.setTop (mkF m 120 #[.val (.int x1), .val (.int x2), .val (.int x3), .val (.int x4), .val (.int x5), .val (.int x6), .val (.int (1 : Int32)), .val (.int ((x1 &&& (255 : Int32)).toUInt32.toUInt16.toUInt32.toInt32)), .val (.int ((x2 &&& (255 : Int32)).toUInt32.toUInt16.toUInt32.toInt32)), .val (.int ((x3 &&& (255 : Int32)).toUInt32.toUInt16.toUInt32.toInt32)), .val (.int ((x4 &&& (255 : Int32)).toUInt32.toUInt16.toUInt32.toInt32)), .val (.int ((x5 &&& (255 : Int32)).toUInt32.toUInt16.toUInt32.toInt32)), .val (.ref sa), .val (.int (0 : Int32))] [(.int (1 : Int32))]))
    refine GoW.retN X4 hS (by rw [e4]; exact hk) hx hlk (t := .boolean) hret (by simp) (hb hby at_120) rfl (by decide) (by decide) ?_
    rw [e4]
    exact ⟨rfl, N4⟩
  · rw [q6]
    show GoW _ _ _ _ _ _ _ (s₁.setTop (mkF m 10 #[.val (.int x1), .val (.int x2), .val (.int x3), .val (.int x4), .val (.int x5), .val (.int x6), .val (.int (2 : Int32)), .unset, .unset, .unset, .unset, .unset, .unset, .unset] []))
    refine GoW.of (fun _ q => XS.iloadN X0.here hx rfl (hb hby at_10) rfl q) ?_
    show GoW _ _ _ _ _ _ _ (s₁.setTop (mkF m 11 #[.val (.int x1), .val (.int x2), .val (.int x3), .val (.int x4), .val (.int x5), .val (.int x6), .val (.int (2 : Int32)), .unset, .unset, .unset, .unset, .unset, .unset, .unset] [(.int x1)]))
    refine GoW.of (fun _ q => XS.sipush X0.here hx rfl (hb hby at_11) q) ?_
    show GoW _ _ _ _ _ _ _ (s₁.setTop (mkF m 14 #[.val (.int x1), .val (.int x2), .val (.int x3), .val (.int x4), .val (.int x5), .val (.int x6), .val (.int (2 : Int32)), .unset, .unset, .unset, .unset, .unset, .unset, .unset] [(.int (255 : Int32)), (.int x1)]))
    refine GoW.of (fun _ q => XS.iand X0.here hx rfl (hb hby at_14) rfl q) ?_
    show GoW _ _ _ _ _ _ _ (s₁.setTop (mkF m 15 #[.val (.int x1), .val (.int x2), .val (.int x3), .val (.int x4), .val (.int x5), .val (.int x6), .val (.int (2 : Int32)), .unset, .unset, .unset, .unset, .unset, .unset, .unset] [(.int (x1 &&& (255 : Int32)))]))
    refine GoW.of (fun _ q => XS.i2c X0.here hx rfl (hb hby at_15) rfl q) ?_
    show GoW _ _ _ _ _ _ _ (s₁.setTop (mkF m 16 #[.val (.int x1), .val (.int x2), .val (.int x3), .val (.int x4), .val (.int x5), .val (.int x6), .val (.int (2 : Int32)), .unset, .unset, .unset, .unset, .unset, .unset, .unset] [(.int ((x1 &&& (255 : Int32)).toUInt32.toUInt16.toUInt32.toInt32))]))
    refine GoW.of (fun _ q => XS.istore X0.here hx rfl (hb hby at_16) rfl (l' := #[.val (.int x1), .val (.int x2), .val (.int x3), .val (.int x4), .val (.int x5), .val (.int x6), .val (.int (2 : Int32)), .val (.int ((x1 &&& (255 : Int32)).toUInt32.toUInt16.toUInt32.toInt32)), .unset, .unset, .unset, .unset, .unset, .unset]) rfl q) ?_
    show GoW _ _ _ _ _ _ _ (s₁.setTop (mkF m 18 #[.val (.int x1), .val (.int x2), .val (.int x3), .val (.int x4), .val (.int x5), .val (.int x6), .val (.int (2 : Int32)), .val (.int ((x1 &&& (255 : Int32)).toUInt32.toUInt16.toUInt32.toInt32)), .unset, .unset, .unset, .unset, .unset, .unset] []))
    refine GoW.of (fun _ q => XS.iloadN X0.here hx rfl (hb hby at_18) rfl q) ?_
    show GoW _ _ _ _ _ _ _ (s₁.setTop (mkF m 19 #[.val (.int x1), .val (.int x2), .val (.int x3), .val (.int x4), .val (.int x5), .val (.int x6), .val (.int (2 : Int32)), .val (.int ((x1 &&& (255 : Int32)).toUInt32.toUInt16.toUInt32.toInt32)), .unset, .unset, .unset, .unset, .unset, .unset] [(.int x2)]))
    refine GoW.of (fun _ q => XS.sipush X0.here hx rfl (hb hby at_19) q) ?_
    show GoW _ _ _ _ _ _ _ (s₁.setTop (mkF m 22 #[.val (.int x1), .val (.int x2), .val (.int x3), .val (.int x4), .val (.int x5), .val (.int x6), .val (.int (2 : Int32)), .val (.int ((x1 &&& (255 : Int32)).toUInt32.toUInt16.toUInt32.toInt32)), .unset, .unset, .unset, .unset, .unset, .unset] [(.int (255 : Int32)), (.int x2)]))
    refine GoW.of (fun _ q => XS.iand X0.here hx rfl (hb hby at_22) rfl q) ?_
    show GoW _ _ _ _ _ _ _ (s₁.setTop (mkF m 23 #[.val (.int x1), .val (.int x2), .val (.int x3), .val (.int x4), .val (.int x5), .val (.int x6), .val (.int (2 : Int32)), .val (.int ((x1 &&& (255 : Int32)).toUInt32.toUInt16.toUInt32.toInt32)), .unset, .unset, .unset, .unset, .unset, .unset] [(.int (x2 &&& (255 : Int32)))]))
    refine GoW.of (fun _ q => XS.i2c X0.here hx rfl (hb hby at_23) rfl q) ?_
    show GoW _ _ _ _ _ _ _ (s₁.setTop (mkF m 24 #[.val (.int x1), .val (.int x2), .val (.int x3), .val (.int x4), .val (.int x5), .val (.int x6), .val (.int (2 : Int32)), .val (.int ((x1 &&& (255 : Int32)).toUInt32.toUInt16.toUInt32.toInt32)), .unset, .unset, .unset, .unset, .unset, .unset] [(.int ((x2 &&& (255 : Int32)).toUInt32.toUInt16.toUInt32.toInt32))]))
    refine GoW.of (fun _ q => XS.istore X0.here hx rfl (hb hby at_24) rfl (l' := #[.val (.int x1), .val (.int x2), .val (.int x3), .val (.int x4), .val (.int x5), .val (.int x6), .val (.int (2 : Int32)), .val (.int ((x1 &&& (255 : Int32)).toUInt32.toUInt16.toUInt32.toInt32)), .val (.int ((x2 &&& (255 : Int32)).toUInt32.toUInt16.toUInt32.toInt32)), .unset, .unset, .unset, .unset, .unset]) rfl q) ?_
    show GoW _ _ _ _ _ _ _ (s₁.setTop (mkF m 26 #[.val (.int x1), .val (.int x2), .val (.int x3), .val (.int x4), .val (.int x5), .val (.int x6), .val (.int (2 : Int32)), .val (.int ((x1 &&& (255 : Int32)).toUInt32.toUInt16.toUInt32.toInt32)), .val (.int ((x2 &&& (255 : Int32)).toUInt32.toUInt16.toUInt32.toInt32)), .unset, .unset, .unset, .unset, .unset] []))
    refine GoW.of (fun _ q => XS.iloadN X0.here hx rfl (hb hby at_26) rfl q) ?_
    show GoW _ _ _ _ _ _ _ (s₁.setTop (mkF m 27 #[.val (.int x1), .val (.int x2), .val (.int x3), .val (.int x4), .val (.int x5), .val (.int x6), .val (.int (2 : Int32)), .val (.int ((x1 &&& (255 : Int32)).toUInt32.toUInt16.toUInt32.toInt32)), .val (.int ((x2 &&& (255 : Int32)).toUInt32.toUInt16.toUInt32.toInt32)), .unset, .unset, .unset, .unset, .unset] [(.int x3)]))
    refine GoW.of (fun _ q => XS.sipush X0.here hx rfl (hb hby at_27) q) ?_
    show GoW _ _ _ _ _ _ _ (s₁.setTop (mkF m 30 #[.val (.int x1), .val (.int x2), .val (.int x3), .val (.int x4), .val (.int x5), .val (.int x6), .val (.int (2 : Int32)), .val (.int ((x1 &&& (255 : Int32)).toUInt32.toUInt16.toUInt32.toInt32)), .val (.int ((x2 &&& (255 : Int32)).toUInt32.toUInt16.toUInt32.toInt32)), .unset, .unset, .unset, .unset, .unset] [(.int (255 : Int32)), (.int x3)]))
    refine GoW.of (fun _ q => XS.iand X0.here hx rfl (hb hby at_30) rfl q) ?_
    show GoW _ _ _ _ _ _ _ (s₁.setTop (mkF m 31 #[.val (.int x1), .val (.int x2), .val (.int x3), .val (.int x4), .val (.int x5), .val (.int x6), .val (.int (2 : Int32)), .val (.int ((x1 &&& (255 : Int32)).toUInt32.toUInt16.toUInt32.toInt32)), .val (.int ((x2 &&& (255 : Int32)).toUInt32.toUInt16.toUInt32.toInt32)), .unset, .unset, .unset, .unset, .unset] [(.int (x3 &&& (255 : Int32)))]))
    refine GoW.of (fun _ q => XS.i2c X0.here hx rfl (hb hby at_31) rfl q) ?_
    show GoW _ _ _ _ _ _ _ (s₁.setTop (mkF m 32 #[.val (.int x1), .val (.int x2), .val (.int x3), .val (.int x4), .val (.int x5), .val (.int x6), .val (.int (2 : Int32)), .val (.int ((x1 &&& (255 : Int32)).toUInt32.toUInt16.toUInt32.toInt32)), .val (.int ((x2 &&& (255 : Int32)).toUInt32.toUInt16.toUInt32.toInt32)), .unset, .unset, .unset, .unset, .unset] [(.int ((x3 &&& (255 : Int32)).toUInt32.toUInt16.toUInt32.toInt32))]))
    refine GoW.of (fun _ q => XS.istore X0.here hx rfl (hb hby at_32) rfl (l' := #[.val (.int x1), .val (.int x2), .val (.int x3), .val (.int x4), .val (.int x5), .val (.int x6), .val (.int (2 : Int32)), .val (.int ((x1 &&& (255 : Int32)).toUInt32.toUInt16.toUInt32.toInt32)), .val (.int ((x2 &&& (255 : Int32)).toUInt32.toUInt16.toUInt32.toInt32)), .val (.int ((x3 &&& (255 : Int32)).toUInt32.toUInt16.toUInt32.toInt32)), .unset, .unset, .unset, .unset]) rfl q) ?_
    show GoW _ _ _ _ _ _ _ (s₁.setTop (mkF m 34 #[.val (.int x1), .val (.int x2), .val (.int x3), .val (.int x4), .val (.int x5), .val (.int x6), .val (.int (2 : Int32)), .val (.int ((x1 &&& (255 : Int32)).toUInt32.toUInt16.toUInt32.toInt32)), .val (.int ((x2 &&& (255 : Int32)).toUInt32.toUInt16.toUInt32.toInt32)), .val (.int ((x3 &&& (255 : Int32)).toUInt32.toUInt16.toUInt32.toInt32)), .unset, .unset, .unset, .unset] []))
    refine GoW.of (fun _ q => XS.iloadN X0.here hx rfl (hb hby at_34) rfl q) ?_
    show GoW _ _ _ _ _ _ _ (s₁.setTop (mkF m 35 #[.val (.int x1), .val (.int x2), .val (.int x3), .val (.int x4), .val (.int x5), .val (.int x6), .val (.int (2 : Int32)), .val (.int ((x1 &&& (255 : Int32)).toUInt32.toUInt16.toUInt32.toInt32)), .val (.int ((x2 &&& (255 : Int32)).toUInt32.toUInt16.toUInt32.toInt32)), .val (.int ((x3 &&& (255 : Int32)).toUInt32.toUInt16.toUInt32.toInt32)), .unset, .unset, .unset, .unset] [(.int x4)]))
    refine GoW.of (fun _ q => XS.sipush X0.here hx rfl (hb hby at_35) q) ?_
    show GoW _ _ _ _ _ _ _ (s₁.setTop (mkF m 38 #[.val (.int x1), .val (.int x2), .val (.int x3), .val (.int x4), .val (.int x5), .val (.int x6), .val (.int (2 : Int32)), .val (.int ((x1 &&& (255 : Int32)).toUInt32.toUInt16.toUInt32.toInt32)), .val (.int ((x2 &&& (255 : Int32)).toUInt32.toUInt16.toUInt32.toInt32)), .val (.int ((x3 &&& (255 : Int32)).toUInt32.toUInt16.toUInt32.toInt32)), .unset, .unset, .unset, .unset] [(.int (255 : Int32)), (.int x4)]))
    refine GoW.of (fun _ q => XS.iand X0.here hx rfl (hb hby at_38) rfl q) ?_
    show GoW _ _ _ _ _ _ _ (s₁.setTop (mkF m 39 #[.val (.int x1), .val (.int x2), .val (.int x3), .val (.int x4), .val (.int x5), .val (.int x6), .val (.int (2 : Int32)), .val (.int ((x1 &&& (255 : Int32)).toUInt32.toUInt16.toUInt32.toInt32)), .val (.int ((x2 &&& (255 : Int32)).toUInt32.toUInt16.toUInt32.toInt32)), .val (.int ((x3 &&& (255 : Int32)).toUInt32.toUInt16.toUInt32.toInt32)), .unset, .unset, .unset, .unset] [(.int (x4 &&& (255 : Int32)))]))
    refine GoW.of (fun _ q => XS.i2c X0.here hx rfl (hb hby at_39) rfl q) ?_
    show GoW _ _ _ _ _ _ _ (s₁.setTop (mkF m 40 #[.val (.int x1), .val (.int x2), .val (.int x3), .val (.int x4), .val (.int x5), .val (.int x6), .val (.int (2 : Int32)), .val (.int ((x1 &&& (255 : Int32)).toUInt32.toUInt16.toUInt32.toInt32)), .val (.int ((x2 &&& (255 : Int32)).toUInt32.toUInt16.toUInt32.toInt32)), .val (.int ((x3 &&& (255 : Int32)).toUInt32.toUInt16.toUInt32.toInt32)), .unset, .unset, .unset, .unset] [(.int ((x4 &&& (255 : Int32)).toUInt32.toUInt16.toUInt32.toInt32))]))
    refine GoW.of (fun _ q => XS.istore X0.here hx rfl (hb hby at_40) rfl (l' := #[.val (.int x1), .val (.int x2), .val (.int x3), .val (.int x4), .val (.int x5), .val (.int x6), .val (.int (2 : Int32)), .val (.int ((x1 &&& (255 : Int32)).toUInt32.toUInt16.toUInt32.toInt32)), .val (.int ((x2 &&& (255 : Int32)).toUInt32.toUInt16.toUInt32.toInt32)), .val (.int ((x3 &&& (255 : Int32)).toUInt32.toUInt16.toUInt32.toInt32)), .val (.int ((x4 &&& (255 : Int32)).toUInt32.toUInt16.toUInt32.toInt32)), .unset, .unset, .unset]) rfl q) ?_
    show GoW _ _ _ _ _ _ _ (s₁.setTop (mkF m 42 #[.val (.int x1), .val (.int x2), .val (.int x3), .val (.int x4), .val (.int x5), .val (.int x6), .val (.int (2 : Int32)), .val (.int ((x1 &&& (255 : Int32)).toUInt32.toUInt16.toUInt32.toInt32)), .val (.int ((x2 &&& (255 : Int32)).toUInt32.toUInt16.toUInt32.toInt32)), .val (.int ((x3 &&& (255 : Int32)).toUInt32.toUInt16.toUInt32.toInt32)), .val (.int ((x4 &&& (255 : Int32)).toUInt32.toUInt16.toUInt32.toInt32)), .unset, .unset, .unset] []))
    refine GoW.of (fun _ q => XS.iload X0.here hx rfl (hb hby at_42) rfl q) ?_
    show GoW _ _ _ _ _ _ _ (s₁.setTop (mkF m 44 #[.val (.int x1), .val (.int x2), .val (.int x3), .val (.int x4), .val (.int x5), .val (.int x6), .val (.int (2 : Int32)), .val (.int ((x1 &&& (255 : Int32)).toUInt32.toUInt16.toUInt32.toInt32)), .val (.int ((x2 &&& (255 : Int32)).toUInt32.toUInt16.toUInt32.toInt32)), .val (.int ((x3 &&& (255 : Int32)).toUInt32.toUInt16.toUInt32.toInt32)), .val (.int ((x4 &&& (255 : Int32)).toUInt32.toUInt16.toUInt32.toInt32)), .unset, .unset, .unset] [(.int x5)]))
    refine GoW.of (fun _ q => XS.sipush X0.here hx rfl (hb hby at_44) q) ?_
    show GoW _ _ _ _ _ _ _ (s₁.setTop (mkF m 47 #[.val (.int x1), .val (.int x2), .val (.int x3), .val (.int x4), .val (.int x5), .val (.int x6), .val (.int (2 : Int32)), .val (.int ((x1 &&& (255 : Int32)).toUInt32.toUInt16.toUInt32.toInt32)), .val (.int ((x2 &&& (255 : Int32)).toUInt32.toUInt16.toUInt32.toInt32)), .val (.int ((x3 &&& (255 : Int32)).toUInt32.toUInt16.toUInt32.toInt32)), .val (.int ((x4 &&& (255 : Int32)).toUInt32.toUInt16.toUInt32.toInt32)), .unset, .unset, .unset] [(.int (255 : Int32)), (.int x5)]))
    refine GoW.of (fun _ q => XS.iand X0.here hx rfl (hb hby at_47) rfl q) ?_
    show GoW _ _ _ _ _ _ _ (s₁.setTop (mkF m 48 #[.val (.int x1), .val (.int x2), .val (.int x3), .val (.int x4), .val (.int x5), .val (.int x6), .val (.int (2 : Int32)), .val (.int ((x1 &&& (255 : Int32)).toUInt32.toUInt16.toUInt32.toInt32)), .val (.int ((x2 &&& (255 : Int32)).toUInt32.toUInt16.toUInt32.toInt32)), .val (.int ((x3 &&& (255 : Int32)).toUInt32.toUInt16.toUInt32.toInt32)), .val (.int ((x4 &&& (255 : Int32)).toUInt32.toUInt16.toUInt32.toInt32)), .unset, .unset, .unset] [(.int (x5 &&& (255 : Int32)))]))
    refine GoW.of (fun _ q => XS.i2c X0.here hx rfl (hb hby at_48) rfl q) ?_
    show GoW _ _ _ _ _ _ _ (s₁.setTop (mkF m 49 #[.val (.int x1), .val (.int x2), .val (.int x3), .val (.int x4), .val (.int x5), .val (.int x6), .val (.int (2 : Int32)), .val (.int ((x1 &&& (255 : Int32)).toUInt32.toUInt16.toUInt32.toInt32)), .val (.int ((x2 &&& (255 : Int32)).toUInt32.toUInt16.toUInt32.toInt32)), .val (.int ((x3 &&& (255 : Int32)).toUInt32.toUInt16.toUInt32.toInt32)), .val (.int ((x4 &&& (255 : Int32)).toUInt32.toUInt16.toUInt32.toInt32)), .unset, .unset, .unset] [(.int ((x5 &&& (255 : Int32)).toUInt32.toUInt16.toUInt32.toInt32))]))
    refine GoW.of (fun _ q => XS.istore X0.here hx rfl (hb hby at_49) rfl (l' := #[.val (.int x1), .val (.int x2), .val (.int x3), .val (.int x4), .val (.int x5), .val (.int x6), .val (.int (2 : Int32)), .val (.int ((x1 &&& (255 : Int32)).toUInt32.toUInt16.toUInt32.toInt32)), .val (.int ((x2 &&& (255 : Int32)).toUInt32.toUInt16.toUInt32.toInt32)), .val (.int ((x3 &&& (255 : Int32)).toUInt32.toUInt16.toUInt32.toInt32)), .val (.int ((x4 &&& (255 : Int32)).toUInt32.toUInt16.toUInt32.toInt32)), .val (.int ((x5 &&& (255 : Int32)).toUInt32.toUInt16.toUInt32.toInt32)), .unset, .unset]) rfl q) ?_
    show GoW _ _ _ _ _ _ _ (s₁.setTop (mkF m 51 #[.val (.int x1), .val (.int x2), .val (.int x3), .val (.int x4), .val (.int x5), .val (.int x6), .val (.int (2 : Int32)), .val (.int ((x1 &&& (255 : Int32)).toUInt32.toUInt16.toUInt32.toInt32)), .val (.int ((x2 &&& (255 : Int32)).toUInt32.toUInt16.toUInt32.toInt32)), .val (.int ((x3 &&& (255 : Int32)).toUInt32.toUInt16.toUInt32.toInt32)), .val (.int ((x4 &&& (255 : Int32)).toUInt32.toUInt16.toUInt32.toInt32)), .val (.int ((x5 &&& (255 : Int32)).toUInt32.toUInt16.toUInt32.toInt32)), .unset, .unset] []))
    refine GoW.of (fun _ q => XS.iload X0.here hx rfl (hb hby at_51) rfl q) ?_
    show GoW _ _ _ _ _ _ _ (s₁.setTop (mkF m 53 #[.val (.int x1), .val (.int x2), .val (.int x3), .val (.int x4), .val (.int x5), .val (.int x6), .val (.int (2 : Int32)), .val (.int ((x1 &&& (255 : Int32)).toUInt32.toUInt16.toUInt32.toInt32)), .val (.int ((x2 &&& (255 : Int32)).toUInt32.toUInt16.toUInt32.toInt32)), .val (.int ((x3 &&& (255 : Int32)).toUInt32.toUInt16.toUInt32.toInt32)), .val (.int ((x4 &&& (255 : Int32)).toUInt32.toUInt16.toUInt32.toInt32)), .val (.int ((x5 &&& (255 : Int32)).toUInt32.toUInt16.toUInt32.toInt32)), .unset, .unset] [(.int (2 : Int32))]))
    refine GoW.of (fun _ q => XS.iload X0.here hx rfl (hb hby at_53) rfl q) ?_
    show GoW _ _ _ _ _ _ _ (s₁.setTop (mkF m 55 #[.val (.int x1), .val (.int x2), .val (.int x3), .val (.int x4), .val (.int x5), .val (.int x6), .val (.int (2 : Int32)), .val (.int ((x1 &&& (255 : Int32)).toUInt32.toUInt16.toUInt32.toInt32)), .val (.int ((x2 &&& (255 : Int32)).toUInt32.toUInt16.toUInt32.toInt32)), .val (.int ((x3 &&& (255 : Int32)).toUInt32.toUInt16.toUInt32.toInt32)), .val (.int ((x4 &&& (255 : Int32)).toUInt32.toUInt16.toUInt32.toInt32)), .val (.int ((x5 &&& (255 : Int32)).toUInt32.toUInt16.toUInt32.toInt32)), .unset, .unset] [(.int ((x1 &&& (255 : Int32)).toUInt32.toUInt16.toUInt32.toInt32)), (.int (2 : Int32))]))
    refine GoW.of (fun _ q => XS.iload X0.here hx rfl (hb hby at_55) rfl q) ?_
    show GoW _ _ _ _ _ _ _ (s₁.setTop (mkF m 57 #[.val (.int x1), .val (.int x2), .val (.int x3), .val (.int x4), .val (.int x5), .val (.int x6), .val (.int (2 : Int32)), .val (.int ((x1 &&& (255 : Int32)).toUInt32.toUInt16.toUInt32.toInt32)), .val (.int ((x2 &&& (255 : Int32)).toUInt32.toUInt16.toUInt32.toInt32)), .val (.int ((x3 &&& (255 : Int32)).toUInt32.toUInt16.toUInt32.toInt32)), .val (.int ((x4 &&& (255 : Int32)).toUInt32.toUInt16.toUInt32.toInt32)), .val (.int ((x5 &&& (255 : Int32)).toUInt32.toUInt16.toUInt32.toInt32)), .unset, .unset] [(.int ((x2 &&& (255 : Int32)).toUInt32.toUInt16.toUInt32.toInt32)), (.int ((x1 &&& (255 : Int32)).toUInt32.toUInt16.toUInt32.toInt32)), (.int (2 : Int32))]))
    refine GoW.of (fun _ q => XS.iload X0.here hx rfl (hb hby at_57) rfl q) ?_
    show GoW _ _ _ _ _ _ _ (s₁.setTop (mkF m 59 #[.val (.int x1), .val (.int x2), .val (.int x3), .val (.int x4), .val (.int x5), .val (.int x6), .val (.int (2 : Int32)), .val (.int ((x1 &&& (255 : Int32)).toUInt32.toUInt16.toUInt32.toInt32)), .val (.int ((x2 &&& (255 : Int32)).toUInt32.toUInt16.toUInt32.toInt32)), .val (.int ((x3 &&& (255 : Int32)).toUInt32.toUInt16.toUInt32.toInt32)), .val (.int ((x4 &&& (255 : Int32)).toUInt32.toUInt16.toUInt32.toInt32)), .val (.int ((x5 &&& (255 : Int32)).toUInt32.toUInt16.toUInt32.toInt32)), .unset, .unset] [(.int ((x3 &&& (255 : Int32)).toUInt32.toUInt16.toUInt32.toInt32)), (.int ((x2 &&& (255 : Int32)).toUInt32.toUInt16.toUInt32.toInt32)), (.int ((x1 &&& (255 : Int32)).toUInt32.toUInt16.toUInt32.toInt32)), (.int (2 : Int32))]))
    refine GoW.of (fun _ q => XS.iload X0.here hx rfl (hb hby at_59) rfl q) ?_
    show GoW _ _ _ _ _ _ _ (s₁.setTop (mkF m 61 #[.val (.int x1), .val (.int x2), .val (.int x3), .val (.int x4), .val (.int x5), .val (.int x6), .val (.int (2 : Int32)), .val (.int ((x1 &&& (255 : Int32)).toUInt32.toUInt16.toUInt32.toInt32)), .val (.int ((x2 &&& (255 : Int32)).toUInt32.toUInt16.toUInt32.toInt32)), .val (.int ((x3 &&& (255 : Int32)).toUInt32.toUInt16.toUInt32.toInt32)), .val (.int ((x4 &&& (255 : Int32)).toUInt32.toUInt16.toUInt32.toInt32)), .val (.int ((x5 &&& (255 : Int32)).toUInt32.toUInt16.toUInt32.toInt32)), .unset, .unset] [(.int ((x4 &&& (255 : Int32)).toUInt32.toUInt16.toUInt32.toInt32)), (.int ((x3 &&& (255 : Int32)).toUInt32.toUInt16.toUInt32.toInt32)), (.int ((x2 &&& (255 : Int32)).toUInt32.toUInt16.toUInt32.toInt32)), (.int ((x1 &&& (255 : Int32)).toUInt32.toUInt16.toUInt32.toInt32)), (.int (2 : Int32))]))
    refine GoW.of (fun _ q => XS.iload X0.here hx rfl (hb hby at_61) rfl q) ?_
    show GoW _ _ _ _ _ _ _ (s₁.setTop (mkF m 63 #[.val (.int x1), .val (.int x2), .val (.int x3), .val (.int x4), .val (.int x5), .val (.int x6), .val (.int (2 : Int32)), .val (.int ((x1 &&& (255 : Int32)).toUInt32.toUInt16.toUInt32.toInt32)), .val (.int ((x2 &&& (255 : Int32)).toUInt32.toUInt16.toUInt32.toInt32)), .val (.int ((x3 &&& (255 : Int32)).toUInt32.toUInt16.toUInt32.toInt32)), .val (.int ((x4 &&& (255 : Int32)).toUInt32.toUInt16.toUInt32.toInt32)), .val (.int ((x5 &&& (255 : Int32)).toUInt32.toUInt16.toUInt32.toInt32)), .unset, .unset] [(.int ((x5 &&& (255 : Int32)).toUInt32.toUInt16.toUInt32.toInt32)), (.int ((x4 &&& (255 : Int32)).toUInt32.toUInt16.toUInt32.toInt32)), (.int ((x3 &&& (255 : Int32)).toUInt32.toUInt16.toUInt32.toInt32)), (.int ((x2 &&& (255 : Int32)).toUInt32.toUInt16.toUInt32.toInt32)), (.int ((x1 &&& (255 : Int32)).toUInt32.toUInt16.toUInt32.toInt32)), (.int (2 : Int32))]))
    refine callStatic GoW.of X0 hx hZ (y := (⟨"com/example/ddos_fee_ledger/ddosfeeledger/MoneyIsCurrencyPinLaw", "make", "(ICCCCC)Ljava/lang/String;"⟩ : MethodName)) (argsL := [(.int (2 : Int32)), (.int ((x1 &&& (255 : Int32)).toUInt32.toUInt16.toUInt32.toInt32)), (.int ((x2 &&& (255 : Int32)).toUInt32.toUInt16.toUInt32.toInt32)), (.int ((x3 &&& (255 : Int32)).toUInt32.toUInt16.toUInt32.toInt32)), (.int ((x4 &&& (255 : Int32)).toUInt32.toUInt16.toUInt32.toInt32)), (.int ((x5 &&& (255 : Int32)).toUInt32.toUInt16.toUInt32.toInt32))]) hown (hw _ (List.mem_of_getElem? (i := 1) rfl)) (hw _ (List.mem_of_getElem? (i := 2) rfl)) (hw _ (List.mem_of_getElem? (i := 3) rfl)) (hw _ (List.mem_of_getElem? (i := 4) rfl)) (by decide) 0 e0 (rm1_2 l Z a0 hw ((x1 &&& (255 : Int32)).toUInt32.toUInt16.toUInt32.toInt32) ((x2 &&& (255 : Int32)).toUInt32.toUInt16.toUInt32.toInt32) ((x3 &&& (255 : Int32)).toUInt32.toUInt16.toUInt32.toInt32) ((x4 &&& (255 : Int32)).toUInt32.toUInt16.toUInt32.toInt32) ((x5 &&& (255 : Int32)).toUInt32.toUInt16.toUInt32.toInt32) cs h0 n0 Zs Od (own_chr2 _) (own_chr2 _) Scs hcs) (by decide) (by decide) (by decide) (by decide) (g := (mkF m 63 #[.val (.int x1), .val (.int x2), .val (.int x3), .val (.int x4), .val (.int x5), .val (.int x6), .val (.int (2 : Int32)), .val (.int ((x1 &&& (255 : Int32)).toUInt32.toUInt16.toUInt32.toInt32)), .val (.int ((x2 &&& (255 : Int32)).toUInt32.toUInt16.toUInt32.toInt32)), .val (.int ((x3 &&& (255 : Int32)).toUInt32.toUInt16.toUInt32.toInt32)), .val (.int ((x4 &&& (255 : Int32)).toUInt32.toUInt16.toUInt32.toInt32)), .val (.int ((x5 &&& (255 : Int32)).toUInt32.toUInt16.toUInt32.toInt32)), .unset, .unset] [(.int ((x5 &&& (255 : Int32)).toUInt32.toUInt16.toUInt32.toInt32)), (.int ((x4 &&& (255 : Int32)).toUInt32.toUInt16.toUInt32.toInt32)), (.int ((x3 &&& (255 : Int32)).toUInt32.toUInt16.toUInt32.toInt32)), (.int ((x2 &&& (255 : Int32)).toUInt32.toUInt16.toUInt32.toInt32)), (.int ((x1 &&& (255 : Int32)).toUInt32.toUInt16.toUInt32.toInt32)), (.int (2 : Int32))])) rfl (by rw [hml]; rfl) (rest := []) (lenOf pd16 rfl) rfl (by show 2 * 0 + _ ≤ _; exact Nat.le_of_eq rfl) (hb hby at_63) ?_
    intro T5 v5 L5 X5 q5
    obtain ⟨sa, d, kd0, gd0, rfl, Nq5, K5, f5_0, f5_1, f5_2, f5_3, f5_4⟩ := q5
    have N5 := Fr.app N0 Nq5
    have g_sa : n0 ≤ sa := Nat.le_trans Zs f5_0
    have sz_sa : h0.size ≤ sa := Nat.le_trans Kp.1 f5_0
    have Zs := Nat.le_trans Zs K5.1
    have Kp := Kp.trans K5 all0
    have hk := Nat.le_trans hk K5.1
    have Od := Od.keep K5 all0
    have E_sa := f5_1
    have F_sa_value := f5_2
    have F_sa_coder := f5_3
    have A_d := f5_4
    show GoW _ _ _ _ _ _ _ (T5.setTop (mkF m 66 #[.val (.int x1), .val (.int x2), .val (.int x3), .val (.int x4), .val (.int x5), .val (.int x6), .val (.int (2 : Int32)), .val (.int ((x1 &&& (255 : Int32)).toUInt32.toUInt16.toUInt32.toInt32)), .val (.int ((x2 &&& (255 : Int32)).toUInt32.toUInt16.toUInt32.toInt32)), .val (.int ((x3 &&& (255 : Int32)).toUInt32.toUInt16.toUInt32.toInt32)), .val (.int ((x4 &&& (255 : Int32)).toUInt32.toUInt16.toUInt32.toInt32)), .val (.int ((x5 &&& (255 : Int32)).toUInt32.toUInt16.toUInt32.toInt32)), .unset, .unset] [(.ref sa)]))
    refine GoW.of (fun _ q => XS.astore X5.here hx rfl (hb hby at_66) rfl rfl (l' := #[.val (.int x1), .val (.int x2), .val (.int x3), .val (.int x4), .val (.int x5), .val (.int x6), .val (.int (2 : Int32)), .val (.int ((x1 &&& (255 : Int32)).toUInt32.toUInt16.toUInt32.toInt32)), .val (.int ((x2 &&& (255 : Int32)).toUInt32.toUInt16.toUInt32.toInt32)), .val (.int ((x3 &&& (255 : Int32)).toUInt32.toUInt16.toUInt32.toInt32)), .val (.int ((x4 &&& (255 : Int32)).toUInt32.toUInt16.toUInt32.toInt32)), .val (.int ((x5 &&& (255 : Int32)).toUInt32.toUInt16.toUInt32.toInt32)), .val (.ref sa), .unset]) rfl q) ?_
    show GoW _ _ _ _ _ _ _ (T5.setTop (mkF m 68 #[.val (.int x1), .val (.int x2), .val (.int x3), .val (.int x4), .val (.int x5), .val (.int x6), .val (.int (2 : Int32)), .val (.int ((x1 &&& (255 : Int32)).toUInt32.toUInt16.toUInt32.toInt32)), .val (.int ((x2 &&& (255 : Int32)).toUInt32.toUInt16.toUInt32.toInt32)), .val (.int ((x3 &&& (255 : Int32)).toUInt32.toUInt16.toUInt32.toInt32)), .val (.int ((x4 &&& (255 : Int32)).toUInt32.toUInt16.toUInt32.toInt32)), .val (.int ((x5 &&& (255 : Int32)).toUInt32.toUInt16.toUInt32.toInt32)), .val (.ref sa), .unset] []))
    refine GoW.of (fun _ q => XS.iload X5.here hx rfl (hb hby at_68) rfl q) ?_
    show GoW _ _ _ _ _ _ _ (T5.setTop (mkF m 70 #[.val (.int x1), .val (.int x2), .val (.int x3), .val (.int x4), .val (.int x5), .val (.int x6), .val (.int (2 : Int32)), .val (.int ((x1 &&& (255 : Int32)).toUInt32.toUInt16.toUInt32.toInt32)), .val (.int ((x2 &&& (255 : Int32)).toUInt32.toUInt16.toUInt32.toInt32)), .val (.int ((x3 &&& (255 : Int32)).toUInt32.toUInt16.toUInt32.toInt32)), .val (.int ((x4 &&& (255 : Int32)).toUInt32.toUInt16.toUInt32.toInt32)), .val (.int ((x5 &&& (255 : Int32)).toUInt32.toUInt16.toUInt32.toInt32)), .val (.ref sa), .unset] [(.int (2 : Int32))]))
    refine GoW.of (fun _ q => XS.iconst X5.here hx rfl (hb hby at_70) q) ?_
    show GoW _ _ _ _ _ _ _ (T5.setTop (mkF m 71 #[.val (.int x1), .val (.int x2), .val (.int x3), .val (.int x4), .val (.int x5), .val (.int x6), .val (.int (2 : Int32)), .val (.int ((x1 &&& (255 : Int32)).toUInt32.toUInt16.toUInt32.toInt32)), .val (.int ((x2 &&& (255 : Int32)).toUInt32.toUInt16.toUInt32.toInt32)), .val (.int ((x3 &&& (255 : Int32)).toUInt32.toUInt16.toUInt32.toInt32)), .val (.int ((x4 &&& (255 : Int32)).toUInt32.toUInt16.toUInt32.toInt32)), .val (.int ((x5 &&& (255 : Int32)).toUInt32.toUInt16.toUInt32.toInt32)), .val (.ref sa), .unset] [(.int (3 : Int32)), (.int (2 : Int32))]))
    refine GoW.of (fun _ q => XS.icmpYes X5.here hx rfl (pc0 := 71) (pc' := 102) rfl (hb hby at_71) rfl (feq (by decide)).2 (by decide) (by decide) q) ?_
    show GoW _ _ _ _ _ _ _ (T5.setTop (mkF m 102 #[.val (.int x1), .val (.int x2), .val (.int x3), .val (.int x4), .val (.int x5), .val (.int x6), .val (.int (2 : Int32)), .val (.int ((x1 &&& (255 : Int32)).toUInt32.toUInt16.toUInt32.toInt32)), .val (.int ((x2 &&& (255 : Int32)).toUInt32.toUInt16.toUInt32.toInt32)), .val (.int ((x3 &&& (255 : Int32)).toUInt32.toUInt16.toUInt32.toInt32)), .val (.int ((x4 &&& (255 : Int32)).toUInt32.toUInt16.toUInt32.toInt32)), .val (.int ((x5 &&& (255 : Int32)).toUInt32.toUInt16.toUInt32.toInt32)), .val (.ref sa), .unset] []))
    refine GoW.of (fun _ q => XS.iconst X5.here hx rfl (hb hby at_102) q) ?_
    show GoW _ _ _ _ _ _ _ (T5.setTop (mkF m 103 #[.val (.int x1), .val (.int x2), .val (.int x3), .val (.int x4), .val (.int x5), .val (.int x6), .val (.int (2 : Int32)), .val (.int ((x1 &&& (255 : Int32)).toUInt32.toUInt16.toUInt32.toInt32)), .val (.int ((x2 &&& (255 : Int32)).toUInt32.toUInt16.toUInt32.toInt32)), .val (.int ((x3 &&& (255 : Int32)).toUInt32.toUInt16.toUInt32.toInt32)), .val (.int ((x4 &&& (255 : Int32)).toUInt32.toUInt16.toUInt32.toInt32)), .val (.int ((x5 &&& (255 : Int32)).toUInt32.toUInt16.toUInt32.toInt32)), .val (.ref sa), .unset] [(.int (0 : Int32))]))
    refine GoW.of (fun _ q => XS.istore X5.here hx rfl (hb hby at_103) rfl (l' := #[.val (.int x1), .val (.int x2), .val (.int x3), .val (.int x4), .val (.int x5), .val (.int x6), .val (.int (2 : Int32)), .val (.int ((x1 &&& (255 : Int32)).toUInt32.toUInt16.toUInt32.toInt32)), .val (.int ((x2 &&& (255 : Int32)).toUInt32.toUInt16.toUInt32.toInt32)), .val (.int ((x3 &&& (255 : Int32)).toUInt32.toUInt16.toUInt32.toInt32)), .val (.int ((x4 &&& (255 : Int32)).toUInt32.toUInt16.toUInt32.toInt32)), .val (.int ((x5 &&& (255 : Int32)).toUInt32.toUInt16.toUInt32.toInt32)), .val (.ref sa), .val (.int (0 : Int32))]) rfl q) ?_
    show GoW _ _ _ _ _ _ _ (T5.setTop (mkF m 105 #[.val (.int x1), .val (.int x2), .val (.int x3), .val (.int x4), .val (.int x5), .val (.int x6), .val (.int (2 : Int32)), .val (.int ((x1 &&& (255 : Int32)).toUInt32.toUInt16.toUInt32.toInt32)), .val (.int ((x2 &&& (255 : Int32)).toUInt32.toUInt16.toUInt32.toInt32)), .val (.int ((x3 &&& (255 : Int32)).toUInt32.toUInt16.toUInt32.toInt32)), .val (.int ((x4 &&& (255 : Int32)).toUInt32.toUInt16.toUInt32.toInt32)), .val (.int ((x5 &&& (255 : Int32)).toUInt32.toUInt16.toUInt32.toInt32)), .val (.ref sa), .val (.int (0 : Int32))] []))
    refine GoW.of (fun _ q => XS.aload X5.here hx rfl (hb hby at_105) rfl rfl q) ?_
    show GoW _ _ _ _ _ _ _ (T5.setTop (mkF m 107 #[.val (.int x1), .val (.int x2), .val (.int x3), .val (.int x4), .val (.int x5), .val (.int x6), .val (.int (2 : Int32)), .val (.int ((x1 &&& (255 : Int32)).toUInt32.toUInt16.toUInt32.toInt32)), .val (.int ((x2 &&& (255 : Int32)).toUInt32.toUInt16.toUInt32.toInt32)), .val (.int ((x3 &&& (255 : Int32)).toUInt32.toUInt16.toUInt32.toInt32)), .val (.int ((x4 &&& (255 : Int32)).toUInt32.toUInt16.toUInt32.toInt32)), .val (.int ((x5 &&& (255 : Int32)).toUInt32.toUInt16.toUInt32.toInt32)), .val (.ref sa), .val (.int (0 : Int32))] [(.ref sa)]))
    refine callStatic GoW.of X5 hx hZ (y := (⟨"com/example/ddos_fee_ledger/ddosfeeledger/Money", "isCurrency", "(Ljava/lang/String;)Z"⟩ : MethodName)) (argsL := [(.ref sa)]) hown (hw _ (List.mem_of_getElem? (i := 38) rfl)) (hw _ (List.mem_of_getElem? (i := 39) rfl)) (hw _ (List.mem_of_getElem? (i := 40) rfl)) (hw _ (List.mem_of_getElem? (i := 41) rfl)) (by decide) 0 rfl (rm9_2 l Z a0 hw sa d kd0 gd0 cs T5.heap n0 Zs Od E_sa F_sa_value F_sa_coder A_d Scs hcs) (by decide) (by decide) (by decide) (by decide) (g := (mkF m 107 #[.val (.int x1), .val (.int x2), .val (.int x3), .val (.int x4), .val (.int x5), .val (.int x6), .val (.int (2 : Int32)), .val (.int ((x1 &&& (255 : Int32)).toUInt32.toUInt16.toUInt32.toInt32)), .val (.int ((x2 &&& (255 : Int32)).toUInt32.toUInt16.toUInt32.toInt32)), .val (.int ((x3 &&& (255 : Int32)).toUInt32.toUInt16.toUInt32.toInt32)), .val (.int ((x4 &&& (255 : Int32)).toUInt32.toUInt16.toUInt32.toInt32)), .val (.int ((x5 &&& (255 : Int32)).toUInt32.toUInt16.toUInt32.toInt32)), .val (.ref sa), .val (.int (0 : Int32))] [(.ref sa)])) rfl (by rw [hml]; rfl) (rest := []) (lenOf pd17 rfl) rfl (by show 2 * 0 + _ ≤ _; exact Nat.le_of_eq rfl) (hb hby at_107) ?_
    intro T6 v6 L6 X6 q6
    obtain ⟨rfl, Nq6, e6⟩ := q6
    have N6 := Fr.app N5 Nq6
    show GoW _ _ _ _ _ _ _ (T6.setTop (mkF m 110 #[.val (.int x1), .val (.int x2), .val (.int x3), .val (.int x4), .val (.int x5), .val (.int x6), .val (.int (2 : Int32)), .val (.int ((x1 &&& (255 : Int32)).toUInt32.toUInt16.toUInt32.toInt32)), .val (.int ((x2 &&& (255 : Int32)).toUInt32.toUInt16.toUInt32.toInt32)), .val (.int ((x3 &&& (255 : Int32)).toUInt32.toUInt16.toUInt32.toInt32)), .val (.int ((x4 &&& (255 : Int32)).toUInt32.toUInt16.toUInt32.toInt32)), .val (.int ((x5 &&& (255 : Int32)).toUInt32.toUInt16.toUInt32.toInt32)), .val (.ref sa), .val (.int (0 : Int32))] [(.int (0 : Int32))]))
    refine GoW.of (fun _ q => XS.iload X6.here hx rfl (hb hby at_110) rfl q) ?_
    show GoW _ _ _ _ _ _ _ (T6.setTop (mkF m 112 #[.val (.int x1), .val (.int x2), .val (.int x3), .val (.int x4), .val (.int x5), .val (.int x6), .val (.int (2 : Int32)), .val (.int ((x1 &&& (255 : Int32)).toUInt32.toUInt16.toUInt32.toInt32)), .val (.int ((x2 &&& (255 : Int32)).toUInt32.toUInt16.toUInt32.toInt32)), .val (.int ((x3 &&& (255 : Int32)).toUInt32.toUInt16.toUInt32.toInt32)), .val (.int ((x4 &&& (255 : Int32)).toUInt32.toUInt16.toUInt32.toInt32)), .val (.int ((x5 &&& (255 : Int32)).toUInt32.toUInt16.toUInt32.toInt32)), .val (.ref sa), .val (.int (0 : Int32))] [(.int (0 : Int32)), (.int (0 : Int32))]))
    refine GoW.of (fun _ q => XS.icmpNo X6.here hx rfl (hb hby at_112) rfl (teq rfl).2 q) ?_
    show GoW _ _ _ _ _ _ _ (T6.setTop (mkF m 115 #[.val (.int x1), .val (.int x2), .val (.int x3), .val (.int x4), .val (.int x5), .val (.int x6), .val (.int (2 : Int32)), .val (.int ((x1 &&& (255 : Int32)).toUInt32.toUInt16.toUInt32.toInt32)), .val (.int ((x2 &&& (255 : Int32)).toUInt32.toUInt16.toUInt32.toInt32)), .val (.int ((x3 &&& (255 : Int32)).toUInt32.toUInt16.toUInt32.toInt32)), .val (.int ((x4 &&& (255 : Int32)).toUInt32.toUInt16.toUInt32.toInt32)), .val (.int ((x5 &&& (255 : Int32)).toUInt32.toUInt16.toUInt32.toInt32)), .val (.ref sa), .val (.int (0 : Int32))] []))
    refine GoW.of (fun _ q => XS.iconst X6.here hx rfl (hb hby at_115) q) ?_
    show GoW _ _ _ _ _ _ _ (T6.setTop (mkF m 116 #[.val (.int x1), .val (.int x2), .val (.int x3), .val (.int x4), .val (.int x5), .val (.int x6), .val (.int (2 : Int32)), .val (.int ((x1 &&& (255 : Int32)).toUInt32.toUInt16.toUInt32.toInt32)), .val (.int ((x2 &&& (255 : Int32)).toUInt32.toUInt16.toUInt32.toInt32)), .val (.int ((x3 &&& (255 : Int32)).toUInt32.toUInt16.toUInt32.toInt32)), .val (.int ((x4 &&& (255 : Int32)).toUInt32.toUInt16.toUInt32.toInt32)), .val (.int ((x5 &&& (255 : Int32)).toUInt32.toUInt16.toUInt32.toInt32)), .val (.ref sa), .val (.int (0 : Int32))] [(.int (1 : Int32))]))
    refine GoW.of (fun _ q => XS.goto X6.here hx rfl (pc0 := 116) (pc' := 120) rfl (hb hby at_116) (by decide) (by decide) q) ?_
    show GoW _ _ _ _ _ _ _ (T6.setTop (mkF m 120 #[.val (.int x1), .val (.int x2), .val (.int x3), .val (.int x4), .val (.int x5), .val (.int x6), .val (.int (2 : Int32)), .val (.int ((x1 &&& (255 : Int32)).toUInt32.toUInt16.toUInt32.toInt32)), .val (.int ((x2 &&& (255 : Int32)).toUInt32.toUInt16.toUInt32.toInt32)), .val (.int ((x3 &&& (255 : Int32)).toUInt32.toUInt16.toUInt32.toInt32)), .val (.int ((x4 &&& (255 : Int32)).toUInt32.toUInt16.toUInt32.toInt32)), .val (.int ((x5 &&& (255 : Int32)).toUInt32.toUInt16.toUInt32.toInt32)), .val (.ref sa), .val (.int (0 : Int32))] [(.int (1 : Int32))]))
    refine GoW.retN X6 hS (by rw [e6]; exact hk) hx hlk (t := .boolean) hret (by simp) (hb hby at_120) rfl (by decide) (by decide) ?_
    rw [e6]
    exact ⟨rfl, N6⟩
  · rw [q6]
    show GoW _ _ _ _ _ _ _ (s₁.setTop (mkF m 10 #[.val (.int x1), .val (.int x2), .val (.int x3), .val (.int x4), .val (.int x5), .val (.int x6), .val (.int (3 : Int32)), .unset, .unset, .unset, .unset, .unset, .unset, .unset] []))
    refine GoW.of (fun _ q => XS.iloadN X0.here hx rfl (hb hby at_10) rfl q) ?_
    show GoW _ _ _ _ _ _ _ (s₁.setTop (mkF m 11 #[.val (.int x1), .val (.int x2), .val (.int x3), .val (.int x4), .val (.int x5), .val (.int x6), .val (.int (3 : Int32)), .unset, .unset, .unset, .unset, .unset, .unset, .unset] [(.int x1)]))
    refine GoW.of (fun _ q => XS.sipush X0.here hx rfl (hb hby at_11) q) ?_
    show GoW _ _ _ _ _ _ _ (s₁.setTop (mkF m 14 #[.val (.int x1), .val (.int x2), .val (.int x3), .val (.int x4), .val (.int x5), .val (.int x6), .val (.int (3 : Int32)), .unset, .unset, .unset, .unset, .unset, .unset, .unset] [(.int (255 : Int32)), (.int x1)]))
    refine GoW.of (fun _ q => XS.iand X0.here hx rfl (hb hby at_14) rfl q) ?_
    show GoW _ _ _ _ _ _ _ (s₁.setTop (mkF m 15 #[.val (.int x1), .val (.int x2), .val (.int x3), .val (.int x4), .val (.int x5), .val (.int x6), .val (.int (3 : Int32)), .unset, .unset, .unset, .unset, .unset, .unset, .unset] [(.int (x1 &&& (255 : Int32)))]))
    refine GoW.of (fun _ q => XS.i2c X0.here hx rfl (hb hby at_15) rfl q) ?_
    show GoW _ _ _ _ _ _ _ (s₁.setTop (mkF m 16 #[.val (.int x1), .val (.int x2), .val (.int x3), .val (.int x4), .val (.int x5), .val (.int x6), .val (.int (3 : Int32)), .unset, .unset, .unset, .unset, .unset, .unset, .unset] [(.int ((x1 &&& (255 : Int32)).toUInt32.toUInt16.toUInt32.toInt32))]))
    refine GoW.of (fun _ q => XS.istore X0.here hx rfl (hb hby at_16) rfl (l' := #[.val (.int x1), .val (.int x2), .val (.int x3), .val (.int x4), .val (.int x5), .val (.int x6), .val (.int (3 : Int32)), .val (.int ((x1 &&& (255 : Int32)).toUInt32.toUInt16.toUInt32.toInt32)), .unset, .unset, .unset, .unset, .unset, .unset]) rfl q) ?_
    show GoW _ _ _ _ _ _ _ (s₁.setTop (mkF m 18 #[.val (.int x1), .val (.int x2), .val (.int x3), .val (.int x4), .val (.int x5), .val (.int x6), .val (.int (3 : Int32)), .val (.int ((x1 &&& (255 : Int32)).toUInt32.toUInt16.toUInt32.toInt32)), .unset, .unset, .unset, .unset, .unset, .unset] []))
    refine GoW.of (fun _ q => XS.iloadN X0.here hx rfl (hb hby at_18) rfl q) ?_
    show GoW _ _ _ _ _ _ _ (s₁.setTop (mkF m 19 #[.val (.int x1), .val (.int x2), .val (.int x3), .val (.int x4), .val (.int x5), .val (.int x6), .val (.int (3 : Int32)), .val (.int ((x1 &&& (255 : Int32)).toUInt32.toUInt16.toUInt32.toInt32)), .unset, .unset, .unset, .unset, .unset, .unset] [(.int x2)]))
    refine GoW.of (fun _ q => XS.sipush X0.here hx rfl (hb hby at_19) q) ?_
    show GoW _ _ _ _ _ _ _ (s₁.setTop (mkF m 22 #[.val (.int x1), .val (.int x2), .val (.int x3), .val (.int x4), .val (.int x5), .val (.int x6), .val (.int (3 : Int32)), .val (.int ((x1 &&& (255 : Int32)).toUInt32.toUInt16.toUInt32.toInt32)), .unset, .unset, .unset, .unset, .unset, .unset] [(.int (255 : Int32)), (.int x2)]))
    refine GoW.of (fun _ q => XS.iand X0.here hx rfl (hb hby at_22) rfl q) ?_
    show GoW _ _ _ _ _ _ _ (s₁.setTop (mkF m 23 #[.val (.int x1), .val (.int x2), .val (.int x3), .val (.int x4), .val (.int x5), .val (.int x6), .val (.int (3 : Int32)), .val (.int ((x1 &&& (255 : Int32)).toUInt32.toUInt16.toUInt32.toInt32)), .unset, .unset, .unset, .unset, .unset, .unset] [(.int (x2 &&& (255 : Int32)))]))
    refine GoW.of (fun _ q => XS.i2c X0.here hx rfl (hb hby at_23) rfl q) ?_
    show GoW _ _ _ _ _ _ _ (s₁.setTop (mkF m 24 #[.val (.int x1), .val (.int x2), .val (.int x3), .val (.int x4), .val (.int x5), .val (.int x6), .val (.int (3 : Int32)), .val (.int ((x1 &&& (255 : Int32)).toUInt32.toUInt16.toUInt32.toInt32)), .unset, .unset, .unset, .unset, .unset, .unset] [(.int ((x2 &&& (255 : Int32)).toUInt32.toUInt16.toUInt32.toInt32))]))
    refine GoW.of (fun _ q => XS.istore X0.here hx rfl (hb hby at_24) rfl (l' := #[.val (.int x1), .val (.int x2), .val (.int x3), .val (.int x4), .val (.int x5), .val (.int x6), .val (.int (3 : Int32)), .val (.int ((x1 &&& (255 : Int32)).toUInt32.toUInt16.toUInt32.toInt32)), .val (.int ((x2 &&& (255 : Int32)).toUInt32.toUInt16.toUInt32.toInt32)), .unset, .unset, .unset, .unset, .unset]) rfl q) ?_
    show GoW _ _ _ _ _ _ _ (s₁.setTop (mkF m 26 #[.val (.int x1), .val (.int x2), .val (.int x3), .val (.int x4), .val (.int x5), .val (.int x6), .val (.int (3 : Int32)), .val (.int ((x1 &&& (255 : Int32)).toUInt32.toUInt16.toUInt32.toInt32)), .val (.int ((x2 &&& (255 : Int32)).toUInt32.toUInt16.toUInt32.toInt32)), .unset, .unset, .unset, .unset, .unset] []))
    refine GoW.of (fun _ q => XS.iloadN X0.here hx rfl (hb hby at_26) rfl q) ?_
    show GoW _ _ _ _ _ _ _ (s₁.setTop (mkF m 27 #[.val (.int x1), .val (.int x2), .val (.int x3), .val (.int x4), .val (.int x5), .val (.int x6), .val (.int (3 : Int32)), .val (.int ((x1 &&& (255 : Int32)).toUInt32.toUInt16.toUInt32.toInt32)), .val (.int ((x2 &&& (255 : Int32)).toUInt32.toUInt16.toUInt32.toInt32)), .unset, .unset, .unset, .unset, .unset] [(.int x3)]))
    refine GoW.of (fun _ q => XS.sipush X0.here hx rfl (hb hby at_27) q) ?_
    show GoW _ _ _ _ _ _ _ (s₁.setTop (mkF m 30 #[.val (.int x1), .val (.int x2), .val (.int x3), .val (.int x4), .val (.int x5), .val (.int x6), .val (.int (3 : Int32)), .val (.int ((x1 &&& (255 : Int32)).toUInt32.toUInt16.toUInt32.toInt32)), .val (.int ((x2 &&& (255 : Int32)).toUInt32.toUInt16.toUInt32.toInt32)), .unset, .unset, .unset, .unset, .unset] [(.int (255 : Int32)), (.int x3)]))
    refine GoW.of (fun _ q => XS.iand X0.here hx rfl (hb hby at_30) rfl q) ?_
    show GoW _ _ _ _ _ _ _ (s₁.setTop (mkF m 31 #[.val (.int x1), .val (.int x2), .val (.int x3), .val (.int x4), .val (.int x5), .val (.int x6), .val (.int (3 : Int32)), .val (.int ((x1 &&& (255 : Int32)).toUInt32.toUInt16.toUInt32.toInt32)), .val (.int ((x2 &&& (255 : Int32)).toUInt32.toUInt16.toUInt32.toInt32)), .unset, .unset, .unset, .unset, .unset] [(.int (x3 &&& (255 : Int32)))]))
    refine GoW.of (fun _ q => XS.i2c X0.here hx rfl (hb hby at_31) rfl q) ?_
    show GoW _ _ _ _ _ _ _ (s₁.setTop (mkF m 32 #[.val (.int x1), .val (.int x2), .val (.int x3), .val (.int x4), .val (.int x5), .val (.int x6), .val (.int (3 : Int32)), .val (.int ((x1 &&& (255 : Int32)).toUInt32.toUInt16.toUInt32.toInt32)), .val (.int ((x2 &&& (255 : Int32)).toUInt32.toUInt16.toUInt32.toInt32)), .unset, .unset, .unset, .unset, .unset] [(.int ((x3 &&& (255 : Int32)).toUInt32.toUInt16.toUInt32.toInt32))]))
    refine GoW.of (fun _ q => XS.istore X0.here hx rfl (hb hby at_32) rfl (l' := #[.val (.int x1), .val (.int x2), .val (.int x3), .val (.int x4), .val (.int x5), .val (.int x6), .val (.int (3 : Int32)), .val (.int ((x1 &&& (255 : Int32)).toUInt32.toUInt16.toUInt32.toInt32)), .val (.int ((x2 &&& (255 : Int32)).toUInt32.toUInt16.toUInt32.toInt32)), .val (.int ((x3 &&& (255 : Int32)).toUInt32.toUInt16.toUInt32.toInt32)), .unset, .unset, .unset, .unset]) rfl q) ?_
    show GoW _ _ _ _ _ _ _ (s₁.setTop (mkF m 34 #[.val (.int x1), .val (.int x2), .val (.int x3), .val (.int x4), .val (.int x5), .val (.int x6), .val (.int (3 : Int32)), .val (.int ((x1 &&& (255 : Int32)).toUInt32.toUInt16.toUInt32.toInt32)), .val (.int ((x2 &&& (255 : Int32)).toUInt32.toUInt16.toUInt32.toInt32)), .val (.int ((x3 &&& (255 : Int32)).toUInt32.toUInt16.toUInt32.toInt32)), .unset, .unset, .unset, .unset] []))
    refine GoW.of (fun _ q => XS.iloadN X0.here hx rfl (hb hby at_34) rfl q) ?_
    show GoW _ _ _ _ _ _ _ (s₁.setTop (mkF m 35 #[.val (.int x1), .val (.int x2), .val (.int x3), .val (.int x4), .val (.int x5), .val (.int x6), .val (.int (3 : Int32)), .val (.int ((x1 &&& (255 : Int32)).toUInt32.toUInt16.toUInt32.toInt32)), .val (.int ((x2 &&& (255 : Int32)).toUInt32.toUInt16.toUInt32.toInt32)), .val (.int ((x3 &&& (255 : Int32)).toUInt32.toUInt16.toUInt32.toInt32)), .unset, .unset, .unset, .unset] [(.int x4)]))
    refine GoW.of (fun _ q => XS.sipush X0.here hx rfl (hb hby at_35) q) ?_
    show GoW _ _ _ _ _ _ _ (s₁.setTop (mkF m 38 #[.val (.int x1), .val (.int x2), .val (.int x3), .val (.int x4), .val (.int x5), .val (.int x6), .val (.int (3 : Int32)), .val (.int ((x1 &&& (255 : Int32)).toUInt32.toUInt16.toUInt32.toInt32)), .val (.int ((x2 &&& (255 : Int32)).toUInt32.toUInt16.toUInt32.toInt32)), .val (.int ((x3 &&& (255 : Int32)).toUInt32.toUInt16.toUInt32.toInt32)), .unset, .unset, .unset, .unset] [(.int (255 : Int32)), (.int x4)]))
    refine GoW.of (fun _ q => XS.iand X0.here hx rfl (hb hby at_38) rfl q) ?_
    show GoW _ _ _ _ _ _ _ (s₁.setTop (mkF m 39 #[.val (.int x1), .val (.int x2), .val (.int x3), .val (.int x4), .val (.int x5), .val (.int x6), .val (.int (3 : Int32)), .val (.int ((x1 &&& (255 : Int32)).toUInt32.toUInt16.toUInt32.toInt32)), .val (.int ((x2 &&& (255 : Int32)).toUInt32.toUInt16.toUInt32.toInt32)), .val (.int ((x3 &&& (255 : Int32)).toUInt32.toUInt16.toUInt32.toInt32)), .unset, .unset, .unset, .unset] [(.int (x4 &&& (255 : Int32)))]))
    refine GoW.of (fun _ q => XS.i2c X0.here hx rfl (hb hby at_39) rfl q) ?_
    show GoW _ _ _ _ _ _ _ (s₁.setTop (mkF m 40 #[.val (.int x1), .val (.int x2), .val (.int x3), .val (.int x4), .val (.int x5), .val (.int x6), .val (.int (3 : Int32)), .val (.int ((x1 &&& (255 : Int32)).toUInt32.toUInt16.toUInt32.toInt32)), .val (.int ((x2 &&& (255 : Int32)).toUInt32.toUInt16.toUInt32.toInt32)), .val (.int ((x3 &&& (255 : Int32)).toUInt32.toUInt16.toUInt32.toInt32)), .unset, .unset, .unset, .unset] [(.int ((x4 &&& (255 : Int32)).toUInt32.toUInt16.toUInt32.toInt32))]))
    refine GoW.of (fun _ q => XS.istore X0.here hx rfl (hb hby at_40) rfl (l' := #[.val (.int x1), .val (.int x2), .val (.int x3), .val (.int x4), .val (.int x5), .val (.int x6), .val (.int (3 : Int32)), .val (.int ((x1 &&& (255 : Int32)).toUInt32.toUInt16.toUInt32.toInt32)), .val (.int ((x2 &&& (255 : Int32)).toUInt32.toUInt16.toUInt32.toInt32)), .val (.int ((x3 &&& (255 : Int32)).toUInt32.toUInt16.toUInt32.toInt32)), .val (.int ((x4 &&& (255 : Int32)).toUInt32.toUInt16.toUInt32.toInt32)), .unset, .unset, .unset]) rfl q) ?_
    show GoW _ _ _ _ _ _ _ (s₁.setTop (mkF m 42 #[.val (.int x1), .val (.int x2), .val (.int x3), .val (.int x4), .val (.int x5), .val (.int x6), .val (.int (3 : Int32)), .val (.int ((x1 &&& (255 : Int32)).toUInt32.toUInt16.toUInt32.toInt32)), .val (.int ((x2 &&& (255 : Int32)).toUInt32.toUInt16.toUInt32.toInt32)), .val (.int ((x3 &&& (255 : Int32)).toUInt32.toUInt16.toUInt32.toInt32)), .val (.int ((x4 &&& (255 : Int32)).toUInt32.toUInt16.toUInt32.toInt32)), .unset, .unset, .unset] []))
    refine GoW.of (fun _ q => XS.iload X0.here hx rfl (hb hby at_42) rfl q) ?_
    show GoW _ _ _ _ _ _ _ (s₁.setTop (mkF m 44 #[.val (.int x1), .val (.int x2), .val (.int x3), .val (.int x4), .val (.int x5), .val (.int x6), .val (.int (3 : Int32)), .val (.int ((x1 &&& (255 : Int32)).toUInt32.toUInt16.toUInt32.toInt32)), .val (.int ((x2 &&& (255 : Int32)).toUInt32.toUInt16.toUInt32.toInt32)), .val (.int ((x3 &&& (255 : Int32)).toUInt32.toUInt16.toUInt32.toInt32)), .val (.int ((x4 &&& (255 : Int32)).toUInt32.toUInt16.toUInt32.toInt32)), .unset, .unset, .unset] [(.int x5)]))
    refine GoW.of (fun _ q => XS.sipush X0.here hx rfl (hb hby at_44) q) ?_
    show GoW _ _ _ _ _ _ _ (s₁.setTop (mkF m 47 #[.val (.int x1), .val (.int x2), .val (.int x3), .val (.int x4), .val (.int x5), .val (.int x6), .val (.int (3 : Int32)), .val (.int ((x1 &&& (255 : Int32)).toUInt32.toUInt16.toUInt32.toInt32)), .val (.int ((x2 &&& (255 : Int32)).toUInt32.toUInt16.toUInt32.toInt32)), .val (.int ((x3 &&& (255 : Int32)).toUInt32.toUInt16.toUInt32.toInt32)), .val (.int ((x4 &&& (255 : Int32)).toUInt32.toUInt16.toUInt32.toInt32)), .unset, .unset, .unset] [(.int (255 : Int32)), (.int x5)]))
    refine GoW.of (fun _ q => XS.iand X0.here hx rfl (hb hby at_47) rfl q) ?_
    show GoW _ _ _ _ _ _ _ (s₁.setTop (mkF m 48 #[.val (.int x1), .val (.int x2), .val (.int x3), .val (.int x4), .val (.int x5), .val (.int x6), .val (.int (3 : Int32)), .val (.int ((x1 &&& (255 : Int32)).toUInt32.toUInt16.toUInt32.toInt32)), .val (.int ((x2 &&& (255 : Int32)).toUInt32.toUInt16.toUInt32.toInt32)), .val (.int ((x3 &&& (255 : Int32)).toUInt32.toUInt16.toUInt32.toInt32)), .val (.int ((x4 &&& (255 : Int32)).toUInt32.toUInt16.toUInt32.toInt32)), .unset, .unset, .unset] [(.int (x5 &&& (255 : Int32)))]))
    refine GoW.of (fun _ q => XS.i2c X0.here hx rfl (hb hby at_48) rfl q) ?_
    show GoW _ _ _ _ _ _ _ (s₁.setTop (mkF m 49 #[.val (.int x1), .val (.int x2), .val (.int x3), .val (.int x4), .val (.int x5), .val (.int x6), .val (.int (3 : Int32)), .val (.int ((x1 &&& (255 : Int32)).toUInt32.toUInt16.toUInt32.toInt32)), .val (.int ((x2 &&& (255 : Int32)).toUInt32.toUInt16.toUInt32.toInt32)), .val (.int ((x3 &&& (255 : Int32)).toUInt32.toUInt16.toUInt32.toInt32)), .val (.int ((x4 &&& (255 : Int32)).toUInt32.toUInt16.toUInt32.toInt32)), .unset, .unset, .unset] [(.int ((x5 &&& (255 : Int32)).toUInt32.toUInt16.toUInt32.toInt32))]))
    refine GoW.of (fun _ q => XS.istore X0.here hx rfl (hb hby at_49) rfl (l' := #[.val (.int x1), .val (.int x2), .val (.int x3), .val (.int x4), .val (.int x5), .val (.int x6), .val (.int (3 : Int32)), .val (.int ((x1 &&& (255 : Int32)).toUInt32.toUInt16.toUInt32.toInt32)), .val (.int ((x2 &&& (255 : Int32)).toUInt32.toUInt16.toUInt32.toInt32)), .val (.int ((x3 &&& (255 : Int32)).toUInt32.toUInt16.toUInt32.toInt32)), .val (.int ((x4 &&& (255 : Int32)).toUInt32.toUInt16.toUInt32.toInt32)), .val (.int ((x5 &&& (255 : Int32)).toUInt32.toUInt16.toUInt32.toInt32)), .unset, .unset]) rfl q) ?_
    show GoW _ _ _ _ _ _ _ (s₁.setTop (mkF m 51 #[.val (.int x1), .val (.int x2), .val (.int x3), .val (.int x4), .val (.int x5), .val (.int x6), .val (.int (3 : Int32)), .val (.int ((x1 &&& (255 : Int32)).toUInt32.toUInt16.toUInt32.toInt32)), .val (.int ((x2 &&& (255 : Int32)).toUInt32.toUInt16.toUInt32.toInt32)), .val (.int ((x3 &&& (255 : Int32)).toUInt32.toUInt16.toUInt32.toInt32)), .val (.int ((x4 &&& (255 : Int32)).toUInt32.toUInt16.toUInt32.toInt32)), .val (.int ((x5 &&& (255 : Int32)).toUInt32.toUInt16.toUInt32.toInt32)), .unset, .unset] []))
    refine GoW.of (fun _ q => XS.iload X0.here hx rfl (hb hby at_51) rfl q) ?_
    show GoW _ _ _ _ _ _ _ (s₁.setTop (mkF m 53 #[.val (.int x1), .val (.int x2), .val (.int x3), .val (.int x4), .val (.int x5), .val (.int x6), .val (.int (3 : Int32)), .val (.int ((x1 &&& (255 : Int32)).toUInt32.toUInt16.toUInt32.toInt32)), .val (.int ((x2 &&& (255 : Int32)).toUInt32.toUInt16.toUInt32.toInt32)), .val (.int ((x3 &&& (255 : Int32)).toUInt32.toUInt16.toUInt32.toInt32)), .val (.int ((x4 &&& (255 : Int32)).toUInt32.toUInt16.toUInt32.toInt32)), .val (.int ((x5 &&& (255 : Int32)).toUInt32.toUInt16.toUInt32.toInt32)), .unset, .unset] [(.int (3 : Int32))]))
    refine GoW.of (fun _ q => XS.iload X0.here hx rfl (hb hby at_53) rfl q) ?_
    show GoW _ _ _ _ _ _ _ (s₁.setTop (mkF m 55 #[.val (.int x1), .val (.int x2), .val (.int x3), .val (.int x4), .val (.int x5), .val (.int x6), .val (.int (3 : Int32)), .val (.int ((x1 &&& (255 : Int32)).toUInt32.toUInt16.toUInt32.toInt32)), .val (.int ((x2 &&& (255 : Int32)).toUInt32.toUInt16.toUInt32.toInt32)), .val (.int ((x3 &&& (255 : Int32)).toUInt32.toUInt16.toUInt32.toInt32)), .val (.int ((x4 &&& (255 : Int32)).toUInt32.toUInt16.toUInt32.toInt32)), .val (.int ((x5 &&& (255 : Int32)).toUInt32.toUInt16.toUInt32.toInt32)), .unset, .unset] [(.int ((x1 &&& (255 : Int32)).toUInt32.toUInt16.toUInt32.toInt32)), (.int (3 : Int32))]))
    refine GoW.of (fun _ q => XS.iload X0.here hx rfl (hb hby at_55) rfl q) ?_
    show GoW _ _ _ _ _ _ _ (s₁.setTop (mkF m 57 #[.val (.int x1), .val (.int x2), .val (.int x3), .val (.int x4), .val (.int x5), .val (.int x6), .val (.int (3 : Int32)), .val (.int ((x1 &&& (255 : Int32)).toUInt32.toUInt16.toUInt32.toInt32)), .val (.int ((x2 &&& (255 : Int32)).toUInt32.toUInt16.toUInt32.toInt32)), .val (.int ((x3 &&& (255 : Int32)).toUInt32.toUInt16.toUInt32.toInt32)), .val (.int ((x4 &&& (255 : Int32)).toUInt32.toUInt16.toUInt32.toInt32)), .val (.int ((x5 &&& (255 : Int32)).toUInt32.toUInt16.toUInt32.toInt32)), .unset, .unset] [(.int ((x2 &&& (255 : Int32)).toUInt32.toUInt16.toUInt32.toInt32)), (.int ((x1 &&& (255 : Int32)).toUInt32.toUInt16.toUInt32.toInt32)), (.int (3 : Int32))]))
    refine GoW.of (fun _ q => XS.iload X0.here hx rfl (hb hby at_57) rfl q) ?_
    show GoW _ _ _ _ _ _ _ (s₁.setTop (mkF m 59 #[.val (.int x1), .val (.int x2), .val (.int x3), .val (.int x4), .val (.int x5), .val (.int x6), .val (.int (3 : Int32)), .val (.int ((x1 &&& (255 : Int32)).toUInt32.toUInt16.toUInt32.toInt32)), .val (.int ((x2 &&& (255 : Int32)).toUInt32.toUInt16.toUInt32.toInt32)), .val (.int ((x3 &&& (255 : Int32)).toUInt32.toUInt16.toUInt32.toInt32)), .val (.int ((x4 &&& (255 : Int32)).toUInt32.toUInt16.toUInt32.toInt32)), .val (.int ((x5 &&& (255 : Int32)).toUInt32.toUInt16.toUInt32.toInt32)), .unset, .unset] [(.int ((x3 &&& (255 : Int32)).toUInt32.toUInt16.toUInt32.toInt32)), (.int ((x2 &&& (255 : Int32)).toUInt32.toUInt16.toUInt32.toInt32)), (.int ((x1 &&& (255 : Int32)).toUInt32.toUInt16.toUInt32.toInt32)), (.int (3 : Int32))]))
    refine GoW.of (fun _ q => XS.iload X0.here hx rfl (hb hby at_59) rfl q) ?_
    show GoW _ _ _ _ _ _ _ (s₁.setTop (mkF m 61 #[.val (.int x1), .val (.int x2), .val (.int x3), .val (.int x4), .val (.int x5), .val (.int x6), .val (.int (3 : Int32)), .val (.int ((x1 &&& (255 : Int32)).toUInt32.toUInt16.toUInt32.toInt32)), .val (.int ((x2 &&& (255 : Int32)).toUInt32.toUInt16.toUInt32.toInt32)), .val (.int ((x3 &&& (255 : Int32)).toUInt32.toUInt16.toUInt32.toInt32)), .val (.int ((x4 &&& (255 : Int32)).toUInt32.toUInt16.toUInt32.toInt32)), .val (.int ((x5 &&& (255 : Int32)).toUInt32.toUInt16.toUInt32.toInt32)), .unset, .unset] [(.int ((x4 &&& (255 : Int32)).toUInt32.toUInt16.toUInt32.toInt32)), (.int ((x3 &&& (255 : Int32)).toUInt32.toUInt16.toUInt32.toInt32)), (.int ((x2 &&& (255 : Int32)).toUInt32.toUInt16.toUInt32.toInt32)), (.int ((x1 &&& (255 : Int32)).toUInt32.toUInt16.toUInt32.toInt32)), (.int (3 : Int32))]))
    refine GoW.of (fun _ q => XS.iload X0.here hx rfl (hb hby at_61) rfl q) ?_
    show GoW _ _ _ _ _ _ _ (s₁.setTop (mkF m 63 #[.val (.int x1), .val (.int x2), .val (.int x3), .val (.int x4), .val (.int x5), .val (.int x6), .val (.int (3 : Int32)), .val (.int ((x1 &&& (255 : Int32)).toUInt32.toUInt16.toUInt32.toInt32)), .val (.int ((x2 &&& (255 : Int32)).toUInt32.toUInt16.toUInt32.toInt32)), .val (.int ((x3 &&& (255 : Int32)).toUInt32.toUInt16.toUInt32.toInt32)), .val (.int ((x4 &&& (255 : Int32)).toUInt32.toUInt16.toUInt32.toInt32)), .val (.int ((x5 &&& (255 : Int32)).toUInt32.toUInt16.toUInt32.toInt32)), .unset, .unset] [(.int ((x5 &&& (255 : Int32)).toUInt32.toUInt16.toUInt32.toInt32)), (.int ((x4 &&& (255 : Int32)).toUInt32.toUInt16.toUInt32.toInt32)), (.int ((x3 &&& (255 : Int32)).toUInt32.toUInt16.toUInt32.toInt32)), (.int ((x2 &&& (255 : Int32)).toUInt32.toUInt16.toUInt32.toInt32)), (.int ((x1 &&& (255 : Int32)).toUInt32.toUInt16.toUInt32.toInt32)), (.int (3 : Int32))]))
    refine callStatic GoW.of X0 hx hZ (y := (⟨"com/example/ddos_fee_ledger/ddosfeeledger/MoneyIsCurrencyPinLaw", "make", "(ICCCCC)Ljava/lang/String;"⟩ : MethodName)) (argsL := [(.int (3 : Int32)), (.int ((x1 &&& (255 : Int32)).toUInt32.toUInt16.toUInt32.toInt32)), (.int ((x2 &&& (255 : Int32)).toUInt32.toUInt16.toUInt32.toInt32)), (.int ((x3 &&& (255 : Int32)).toUInt32.toUInt16.toUInt32.toInt32)), (.int ((x4 &&& (255 : Int32)).toUInt32.toUInt16.toUInt32.toInt32)), (.int ((x5 &&& (255 : Int32)).toUInt32.toUInt16.toUInt32.toInt32))]) hown (hw _ (List.mem_of_getElem? (i := 1) rfl)) (hw _ (List.mem_of_getElem? (i := 2) rfl)) (hw _ (List.mem_of_getElem? (i := 3) rfl)) (hw _ (List.mem_of_getElem? (i := 4) rfl)) (by decide) 0 e0 (rm1_3 l Z a0 hw ((x1 &&& (255 : Int32)).toUInt32.toUInt16.toUInt32.toInt32) ((x2 &&& (255 : Int32)).toUInt32.toUInt16.toUInt32.toInt32) ((x3 &&& (255 : Int32)).toUInt32.toUInt16.toUInt32.toInt32) ((x4 &&& (255 : Int32)).toUInt32.toUInt16.toUInt32.toInt32) ((x5 &&& (255 : Int32)).toUInt32.toUInt16.toUInt32.toInt32) cs h0 n0 Zs Od (own_chr2 _) (own_chr2 _) (own_chr2 _) Scs hcs) (by decide) (by decide) (by decide) (by decide) (g := (mkF m 63 #[.val (.int x1), .val (.int x2), .val (.int x3), .val (.int x4), .val (.int x5), .val (.int x6), .val (.int (3 : Int32)), .val (.int ((x1 &&& (255 : Int32)).toUInt32.toUInt16.toUInt32.toInt32)), .val (.int ((x2 &&& (255 : Int32)).toUInt32.toUInt16.toUInt32.toInt32)), .val (.int ((x3 &&& (255 : Int32)).toUInt32.toUInt16.toUInt32.toInt32)), .val (.int ((x4 &&& (255 : Int32)).toUInt32.toUInt16.toUInt32.toInt32)), .val (.int ((x5 &&& (255 : Int32)).toUInt32.toUInt16.toUInt32.toInt32)), .unset, .unset] [(.int ((x5 &&& (255 : Int32)).toUInt32.toUInt16.toUInt32.toInt32)), (.int ((x4 &&& (255 : Int32)).toUInt32.toUInt16.toUInt32.toInt32)), (.int ((x3 &&& (255 : Int32)).toUInt32.toUInt16.toUInt32.toInt32)), (.int ((x2 &&& (255 : Int32)).toUInt32.toUInt16.toUInt32.toInt32)), (.int ((x1 &&& (255 : Int32)).toUInt32.toUInt16.toUInt32.toInt32)), (.int (3 : Int32))])) rfl (by rw [hml]; rfl) (rest := []) (lenOf pd16 rfl) rfl (by show 2 * 0 + _ ≤ _; exact Nat.le_of_eq rfl) (hb hby at_63) ?_
    intro T7 v7 L7 X7 q7
    obtain ⟨sa, d, kd0, rfl, Nq7, K7, f7_0, f7_1, f7_2, f7_3, f7_4⟩ := q7
    have N7 := Fr.app N0 Nq7
    have g_sa : n0 ≤ sa := Nat.le_trans Zs f7_0
    have sz_sa : h0.size ≤ sa := Nat.le_trans Kp.1 f7_0
    have Zs := Nat.le_trans Zs K7.1
    have Kp := Kp.trans K7 all0
    have hk := Nat.le_trans hk K7.1
    have Od := Od.keep K7 all0
    have E_sa := f7_1
    have F_sa_value := f7_2
    have F_sa_coder := f7_3
    have A_d := f7_4
    show GoW _ _ _ _ _ _ _ (T7.setTop (mkF m 66 #[.val (.int x1), .val (.int x2), .val (.int x3), .val (.int x4), .val (.int x5), .val (.int x6), .val (.int (3 : Int32)), .val (.int ((x1 &&& (255 : Int32)).toUInt32.toUInt16.toUInt32.toInt32)), .val (.int ((x2 &&& (255 : Int32)).toUInt32.toUInt16.toUInt32.toInt32)), .val (.int ((x3 &&& (255 : Int32)).toUInt32.toUInt16.toUInt32.toInt32)), .val (.int ((x4 &&& (255 : Int32)).toUInt32.toUInt16.toUInt32.toInt32)), .val (.int ((x5 &&& (255 : Int32)).toUInt32.toUInt16.toUInt32.toInt32)), .unset, .unset] [(.ref sa)]))
    refine GoW.of (fun _ q => XS.astore X7.here hx rfl (hb hby at_66) rfl rfl (l' := #[.val (.int x1), .val (.int x2), .val (.int x3), .val (.int x4), .val (.int x5), .val (.int x6), .val (.int (3 : Int32)), .val (.int ((x1 &&& (255 : Int32)).toUInt32.toUInt16.toUInt32.toInt32)), .val (.int ((x2 &&& (255 : Int32)).toUInt32.toUInt16.toUInt32.toInt32)), .val (.int ((x3 &&& (255 : Int32)).toUInt32.toUInt16.toUInt32.toInt32)), .val (.int ((x4 &&& (255 : Int32)).toUInt32.toUInt16.toUInt32.toInt32)), .val (.int ((x5 &&& (255 : Int32)).toUInt32.toUInt16.toUInt32.toInt32)), .val (.ref sa), .unset]) rfl q) ?_
    show GoW _ _ _ _ _ _ _ (T7.setTop (mkF m 68 #[.val (.int x1), .val (.int x2), .val (.int x3), .val (.int x4), .val (.int x5), .val (.int x6), .val (.int (3 : Int32)), .val (.int ((x1 &&& (255 : Int32)).toUInt32.toUInt16.toUInt32.toInt32)), .val (.int ((x2 &&& (255 : Int32)).toUInt32.toUInt16.toUInt32.toInt32)), .val (.int ((x3 &&& (255 : Int32)).toUInt32.toUInt16.toUInt32.toInt32)), .val (.int ((x4 &&& (255 : Int32)).toUInt32.toUInt16.toUInt32.toInt32)), .val (.int ((x5 &&& (255 : Int32)).toUInt32.toUInt16.toUInt32.toInt32)), .val (.ref sa), .unset] []))
    refine GoW.of (fun _ q => XS.iload X7.here hx rfl (hb hby at_68) rfl q) ?_
    show GoW _ _ _ _ _ _ _ (T7.setTop (mkF m 70 #[.val (.int x1), .val (.int x2), .val (.int x3), .val (.int x4), .val (.int x5), .val (.int x6), .val (.int (3 : Int32)), .val (.int ((x1 &&& (255 : Int32)).toUInt32.toUInt16.toUInt32.toInt32)), .val (.int ((x2 &&& (255 : Int32)).toUInt32.toUInt16.toUInt32.toInt32)), .val (.int ((x3 &&& (255 : Int32)).toUInt32.toUInt16.toUInt32.toInt32)), .val (.int ((x4 &&& (255 : Int32)).toUInt32.toUInt16.toUInt32.toInt32)), .val (.int ((x5 &&& (255 : Int32)).toUInt32.toUInt16.toUInt32.toInt32)), .val (.ref sa), .unset] [(.int (3 : Int32))]))
    refine GoW.of (fun _ q => XS.iconst X7.here hx rfl (hb hby at_70) q) ?_
    show GoW _ _ _ _ _ _ _ (T7.setTop (mkF m 71 #[.val (.int x1), .val (.int x2), .val (.int x3), .val (.int x4), .val (.int x5), .val (.int x6), .val (.int (3 : Int32)), .val (.int ((x1 &&& (255 : Int32)).toUInt32.toUInt16.toUInt32.toInt32)), .val (.int ((x2 &&& (255 : Int32)).toUInt32.toUInt16.toUInt32.toInt32)), .val (.int ((x3 &&& (255 : Int32)).toUInt32.toUInt16.toUInt32.toInt32)), .val (.int ((x4 &&& (255 : Int32)).toUInt32.toUInt16.toUInt32.toInt32)), .val (.int ((x5 &&& (255 : Int32)).toUInt32.toUInt16.toUInt32.toInt32)), .val (.ref sa), .unset] [(.int (3 : Int32)), (.int (3 : Int32))]))
    refine GoW.of (fun _ q => XS.icmpNo X7.here hx rfl (hb hby at_71) rfl (teq rfl).2 q) ?_
    show GoW _ _ _ _ _ _ _ (T7.setTop (mkF m 74 #[.val (.int x1), .val (.int x2), .val (.int x3), .val (.int x4), .val (.int x5), .val (.int x6), .val (.int (3 : Int32)), .val (.int ((x1 &&& (255 : Int32)).toUInt32.toUInt16.toUInt32.toInt32)), .val (.int ((x2 &&& (255 : Int32)).toUInt32.toUInt16.toUInt32.toInt32)), .val (.int ((x3 &&& (255 : Int32)).toUInt32.toUInt16.toUInt32.toInt32)), .val (.int ((x4 &&& (255 : Int32)).toUInt32.toUInt16.toUInt32.toInt32)), .val (.int ((x5 &&& (255 : Int32)).toUInt32.toUInt16.toUInt32.toInt32)), .val (.ref sa), .unset] []))
    refine GoW.of (fun _ q => XS.iload X7.here hx rfl (hb hby at_74) rfl q) ?_
    show GoW _ _ _ _ _ _ _ (T7.setTop (mkF m 76 #[.val (.int x1), .val (.int x2), .val (.int x3), .val (.int x4), .val (.int x5), .val (.int x6), .val (.int (3 : Int32)), .val (.int ((x1 &&& (255 : Int32)).toUInt32.toUInt16.toUInt32.toInt32)), .val (.int ((x2 &&& (255 : Int32)).toUInt32.toUInt16.toUInt32.toInt32)), .val (.int ((x3 &&& (255 : Int32)).toUInt32.toUInt16.toUInt32.toInt32)), .val (.int ((x4 &&& (255 : Int32)).toUInt32.toUInt16.toUInt32.toInt32)), .val (.int ((x5 &&& (255 : Int32)).toUInt32.toUInt16.toUInt32.toInt32)), .val (.ref sa), .unset] [(.int ((x1 &&& (255 : Int32)).toUInt32.toUInt16.toUInt32.toInt32))]))
    refine callStatic GoW.of X7 hx hZ (y := (⟨"com/example/ddos_fee_ledger/ddosfeeledger/MoneyIsCurrencyPinLaw", "upper", "(C)Z"⟩ : MethodName)) (argsL := [(.int ((x1 &&& (255 : Int32)).toUInt32.toUInt16.toUInt32.toInt32))]) hown (hw _ (List.mem_of_getElem? (i := 35) rfl)) (hw _ (List.mem_of_getElem? (i := 36) rfl)) (hw _ (List.mem_of_getElem? (i := 3) rfl)) (hw _ (List.mem_of_getElem? (i := 37) rfl)) (by decide) 0 rfl (rm8 l Z a0 hw ((x1 &&& (255 : Int32)).toUInt32.toUInt16.toUInt32.toInt32) T7.heap n0 Zs ) (by decide) (by decide) (by decide) (by decide) (g := (mkF m 76 #[.val (.int x1), .val (.int x2), .val (.int x3), .val (.int x4), .val (.int x5), .val (.int x6), .val (.int (3 : Int32)), .val (.int ((x1 &&& (255 : Int32)).toUInt32.toUInt16.toUInt32.toInt32)), .val (.int ((x2 &&& (255 : Int32)).toUInt32.toUInt16.toUInt32.toInt32)), .val (.int ((x3 &&& (255 : Int32)).toUInt32.toUInt16.toUInt32.toInt32)), .val (.int ((x4 &&& (255 : Int32)).toUInt32.toUInt16.toUInt32.toInt32)), .val (.int ((x5 &&& (255 : Int32)).toUInt32.toUInt16.toUInt32.toInt32)), .val (.ref sa), .unset] [(.int ((x1 &&& (255 : Int32)).toUInt32.toUInt16.toUInt32.toInt32))])) rfl (by rw [hml]; rfl) (rest := []) (lenOf pd7 rfl) rfl (by show 2 * 0 + _ ≤ _; exact Nat.le_of_eq rfl) (hb hby at_76) ?_
    intro T8 v8 L8 X8 q8
    obtain ⟨rfl, Nq8, e8⟩ := q8
    have N8 := Fr.app N7 Nq8
    show GoW _ _ _ _ _ _ _ (T8.setTop (mkF m 79 #[.val (.int x1), .val (.int x2), .val (.int x3), .val (.int x4), .val (.int x5), .val (.int x6), .val (.int (3 : Int32)), .val (.int ((x1 &&& (255 : Int32)).toUInt32.toUInt16.toUInt32.toInt32)), .val (.int ((x2 &&& (255 : Int32)).toUInt32.toUInt16.toUInt32.toInt32)), .val (.int ((x3 &&& (255 : Int32)).toUInt32.toUInt16.toUInt32.toInt32)), .val (.int ((x4 &&& (255 : Int32)).toUInt32.toUInt16.toUInt32.toInt32)), .val (.int ((x5 &&& (255 : Int32)).toUInt32.toUInt16.toUInt32.toInt32)), .val (.ref sa), .unset] [(.int (own_up ((x1 &&& (255 : Int32)).toUInt32.toUInt16.toUInt32.toInt32)))]))
    by_cases c79 : (own_up ((x1 &&& (255 : Int32)).toUInt32.toUInt16.toUInt32.toInt32)) = (0 : Int32)
    · refine GoW.of (fun _ q => XS.ifYes X8.here hx rfl (pc0 := 79) (pc' := 102) rfl (hb hby at_79) rfl ((if0 _ _).trans (teq c79).1) (by decide) (by decide) q) ?_
      show GoW _ _ _ _ _ _ _ (T8.setTop (mkF m 102 #[.val (.int x1), .val (.int x2), .val (.int x3), .val (.int x4), .val (.int x5), .val (.int x6), .val (.int (3 : Int32)), .val (.int ((x1 &&& (255 : Int32)).toUInt32.toUInt16.toUInt32.toInt32)), .val (.int ((x2 &&& (255 : Int32)).toUInt32.toUInt16.toUInt32.toInt32)), .val (.int ((x3 &&& (255 : Int32)).toUInt32.toUInt16.toUInt32.toInt32)), .val (.int ((x4 &&& (255 : Int32)).toUInt32.toUInt16.toUInt32.toInt32)), .val (.int ((x5 &&& (255 : Int32)).toUInt32.toUInt16.toUInt32.toInt32)), .val (.ref sa), .unset] []))
      refine GoW.of (fun _ q => XS.iconst X8.here hx rfl (hb hby at_102) q) ?_
      show GoW _ _ _ _ _ _ _ (T8.setTop (mkF m 103 #[.val (.int x1), .val (.int x2), .val (.int x3), .val (.int x4), .val (.int x5), .val (.int x6), .val (.int (3 : Int32)), .val (.int ((x1 &&& (255 : Int32)).toUInt32.toUInt16.toUInt32.toInt32)), .val (.int ((x2 &&& (255 : Int32)).toUInt32.toUInt16.toUInt32.toInt32)), .val (.int ((x3 &&& (255 : Int32)).toUInt32.toUInt16.toUInt32.toInt32)), .val (.int ((x4 &&& (255 : Int32)).toUInt32.toUInt16.toUInt32.toInt32)), .val (.int ((x5 &&& (255 : Int32)).toUInt32.toUInt16.toUInt32.toInt32)), .val (.ref sa), .unset] [(.int (0 : Int32))]))
      refine GoW.of (fun _ q => XS.istore X8.here hx rfl (hb hby at_103) rfl (l' := #[.val (.int x1), .val (.int x2), .val (.int x3), .val (.int x4), .val (.int x5), .val (.int x6), .val (.int (3 : Int32)), .val (.int ((x1 &&& (255 : Int32)).toUInt32.toUInt16.toUInt32.toInt32)), .val (.int ((x2 &&& (255 : Int32)).toUInt32.toUInt16.toUInt32.toInt32)), .val (.int ((x3 &&& (255 : Int32)).toUInt32.toUInt16.toUInt32.toInt32)), .val (.int ((x4 &&& (255 : Int32)).toUInt32.toUInt16.toUInt32.toInt32)), .val (.int ((x5 &&& (255 : Int32)).toUInt32.toUInt16.toUInt32.toInt32)), .val (.ref sa), .val (.int (0 : Int32))]) rfl q) ?_
      show GoW _ _ _ _ _ _ _ (T8.setTop (mkF m 105 #[.val (.int x1), .val (.int x2), .val (.int x3), .val (.int x4), .val (.int x5), .val (.int x6), .val (.int (3 : Int32)), .val (.int ((x1 &&& (255 : Int32)).toUInt32.toUInt16.toUInt32.toInt32)), .val (.int ((x2 &&& (255 : Int32)).toUInt32.toUInt16.toUInt32.toInt32)), .val (.int ((x3 &&& (255 : Int32)).toUInt32.toUInt16.toUInt32.toInt32)), .val (.int ((x4 &&& (255 : Int32)).toUInt32.toUInt16.toUInt32.toInt32)), .val (.int ((x5 &&& (255 : Int32)).toUInt32.toUInt16.toUInt32.toInt32)), .val (.ref sa), .val (.int (0 : Int32))] []))
      refine GoW.of (fun _ q => XS.aload X8.here hx rfl (hb hby at_105) rfl rfl q) ?_
      show GoW _ _ _ _ _ _ _ (T8.setTop (mkF m 107 #[.val (.int x1), .val (.int x2), .val (.int x3), .val (.int x4), .val (.int x5), .val (.int x6), .val (.int (3 : Int32)), .val (.int ((x1 &&& (255 : Int32)).toUInt32.toUInt16.toUInt32.toInt32)), .val (.int ((x2 &&& (255 : Int32)).toUInt32.toUInt16.toUInt32.toInt32)), .val (.int ((x3 &&& (255 : Int32)).toUInt32.toUInt16.toUInt32.toInt32)), .val (.int ((x4 &&& (255 : Int32)).toUInt32.toUInt16.toUInt32.toInt32)), .val (.int ((x5 &&& (255 : Int32)).toUInt32.toUInt16.toUInt32.toInt32)), .val (.ref sa), .val (.int (0 : Int32))] [(.ref sa)]))
      refine callStatic GoW.of X8 hx hZ (y := (⟨"com/example/ddos_fee_ledger/ddosfeeledger/Money", "isCurrency", "(Ljava/lang/String;)Z"⟩ : MethodName)) (argsL := [(.ref sa)]) hown (hw _ (List.mem_of_getElem? (i := 38) rfl)) (hw _ (List.mem_of_getElem? (i := 39) rfl)) (hw _ (List.mem_of_getElem? (i := 40) rfl)) (hw _ (List.mem_of_getElem? (i := 41) rfl)) (by decide) 0 e8 (rm9_3 l Z a0 hw sa d kd0 (fun i => own_by (own_p3 ((x1 &&& (255 : Int32)).toUInt32.toUInt16.toUInt32.toInt32) ((x2 &&& (255 : Int32)).toUInt32.toUInt16.toUInt32.toInt32) ((x3 &&& (255 : Int32)).toUInt32.toUInt16.toUInt32.toInt32) i)) fm hfm cs T7.heap n0 Zs Od E_sa F_sa_value F_sa_coder A_d Sfm Scs hcs) (by decide) (by decide) (by decide) (by decide) (g := (mkF m 107 #[.val (.int x1), .val (.int x2), .val (.int x3), .val (.int x4), .val (.int x5), .val (.int x6), .val (.int (3 : Int32)), .val (.int ((x1 &&& (255 : Int32)).toUInt32.toUInt16.toUInt32.toInt32)), .val (.int ((x2 &&& (255 : Int32)).toUInt32.toUInt16.toUInt32.toInt32)), .val (.int ((x3 &&& (255 : Int32)).toUInt32.toUInt16.toUInt32.toInt32)), .val (.int ((x4 &&& (255 : Int32)).toUInt32.toUInt16.toUInt32.toInt32)), .val (.int ((x5 &&& (255 : Int32)).toUInt32.toUInt16.toUInt32.toInt32)), .val (.ref sa), .val (.int (0 : Int32))] [(.ref sa)])) rfl (by rw [hml]; rfl) (rest := []) (lenOf pd17 rfl) rfl (by show 2 * 0 + _ ≤ _; exact Nat.le_of_eq rfl) (hb hby at_107) ?_
      intro T9 v9 L9 X9 q9
      obtain ⟨rfl, Nq9, e9⟩ := q9
      have N9 := Fr.app N8 Nq9
      show GoW _ _ _ _ _ _ _ (T9.setTop (mkF m 110 #[.val (.int x1), .val (.int x2), .val (.int x3), .val (.int x4), .val (.int x5), .val (.int x6), .val (.int (3 : Int32)), .val (.int ((x1 &&& (255 : Int32)).toUInt32.toUInt16.toUInt32.toInt32)), .val (.int ((x2 &&& (255 : Int32)).toUInt32.toUInt16.toUInt32.toInt32)), .val (.int ((x3 &&& (255 : Int32)).toUInt32.toUInt16.toUInt32.toInt32)), .val (.int ((x4 &&& (255 : Int32)).toUInt32.toUInt16.toUInt32.toInt32)), .val (.int ((x5 &&& (255 : Int32)).toUInt32.toUInt16.toUInt32.toInt32)), .val (.ref sa), .val (.int (0 : Int32))] [(.int (own_cur (own_ch ((fun i => own_by (own_p3 ((x1 &&& (255 : Int32)).toUInt32.toUInt16.toUInt32.toInt32) ((x2 &&& (255 : Int32)).toUInt32.toUInt16.toUInt32.toInt32) ((x3 &&& (255 : Int32)).toUInt32.toUInt16.toUInt32.toInt32) i)) 0)) (own_ch ((fun i => own_by (own_p3 ((x1 &&& (255 : Int32)).toUInt32.toUInt16.toUInt32.toInt32) ((x2 &&& (255 : Int32)).toUInt32.toUInt16.toUInt32.toInt32) ((x3 &&& (255 : Int32)).toUInt32.toUInt16.toUInt32.toInt32) i)) 1)) (own_ch ((fun i => own_by (own_p3 ((x1 &&& (255 : Int32)).toUInt32.toUInt16.toUInt32.toInt32) ((x2 &&& (255 : Int32)).toUInt32.toUInt16.toUInt32.toInt32) ((x3 &&& (255 : Int32)).toUInt32.toUInt16.toUInt32.toInt32) i)) 2))))]))
      refine GoW.of (fun _ q => XS.iload X9.here hx rfl (hb hby at_110) rfl q) ?_
      show GoW _ _ _ _ _ _ _ (T9.setTop (mkF m 112 #[.val (.int x1), .val (.int x2), .val (.int x3), .val (.int x4), .val (.int x5), .val (.int x6), .val (.int (3 : Int32)), .val (.int ((x1 &&& (255 : Int32)).toUInt32.toUInt16.toUInt32.toInt32)), .val (.int ((x2 &&& (255 : Int32)).toUInt32.toUInt16.toUInt32.toInt32)), .val (.int ((x3 &&& (255 : Int32)).toUInt32.toUInt16.toUInt32.toInt32)), .val (.int ((x4 &&& (255 : Int32)).toUInt32.toUInt16.toUInt32.toInt32)), .val (.int ((x5 &&& (255 : Int32)).toUInt32.toUInt16.toUInt32.toInt32)), .val (.ref sa), .val (.int (0 : Int32))] [(.int (0 : Int32)), (.int (own_cur (own_ch ((fun i => own_by (own_p3 ((x1 &&& (255 : Int32)).toUInt32.toUInt16.toUInt32.toInt32) ((x2 &&& (255 : Int32)).toUInt32.toUInt16.toUInt32.toInt32) ((x3 &&& (255 : Int32)).toUInt32.toUInt16.toUInt32.toInt32) i)) 0)) (own_ch ((fun i => own_by (own_p3 ((x1 &&& (255 : Int32)).toUInt32.toUInt16.toUInt32.toInt32) ((x2 &&& (255 : Int32)).toUInt32.toUInt16.toUInt32.toInt32) ((x3 &&& (255 : Int32)).toUInt32.toUInt16.toUInt32.toInt32) i)) 1)) (own_ch ((fun i => own_by (own_p3 ((x1 &&& (255 : Int32)).toUInt32.toUInt16.toUInt32.toInt32) ((x2 &&& (255 : Int32)).toUInt32.toUInt16.toUInt32.toInt32) ((x3 &&& (255 : Int32)).toUInt32.toUInt16.toUInt32.toInt32) i)) 2))))]))
      refine GoW.of (fun _ q => XS.icmpNo X9.here hx rfl (hb hby at_112) rfl (teq (by show own_cur (own_ch (own_by (((x1 &&& (255 : Int32)).toUInt32.toUInt16.toUInt32.toInt32).toUInt32.toUInt16.toUInt32.toInt32))) (own_ch (own_by (((x2 &&& (255 : Int32)).toUInt32.toUInt16.toUInt32.toInt32).toUInt32.toUInt16.toUInt32.toInt32))) (own_ch (own_by (((x3 &&& (255 : Int32)).toUInt32.toUInt16.toUInt32.toInt32).toUInt32.toUInt16.toUInt32.toInt32))) = _; rw [own_chk, own_chk, own_chk, own_cur_eq, if_pos c79])).2 q) ?_
      show GoW _ _ _ _ _ _ _ (T9.setTop (mkF m 115 #[.val (.int x1), .val (.int x2), .val (.int x3), .val (.int x4), .val (.int x5), .val (.int x6), .val (.int (3 : Int32)), .val (.int ((x1 &&& (255 : Int32)).toUInt32.toUInt16.toUInt32.toInt32)), .val (.int ((x2 &&& (255 : Int32)).toUInt32.toUInt16.toUInt32.toInt32)), .val (.int ((x3 &&& (255 : Int32)).toUInt32.toUInt16.toUInt32.toInt32)), .val (.int ((x4 &&& (255 : Int32)).toUInt32.toUInt16.toUInt32.toInt32)), .val (.int ((x5 &&& (255 : Int32)).toUInt32.toUInt16.toUInt32.toInt32)), .val (.ref sa), .val (.int (0 : Int32))] []))
      refine GoW.of (fun _ q => XS.iconst X9.here hx rfl (hb hby at_115) q) ?_
      show GoW _ _ _ _ _ _ _ (T9.setTop (mkF m 116 #[.val (.int x1), .val (.int x2), .val (.int x3), .val (.int x4), .val (.int x5), .val (.int x6), .val (.int (3 : Int32)), .val (.int ((x1 &&& (255 : Int32)).toUInt32.toUInt16.toUInt32.toInt32)), .val (.int ((x2 &&& (255 : Int32)).toUInt32.toUInt16.toUInt32.toInt32)), .val (.int ((x3 &&& (255 : Int32)).toUInt32.toUInt16.toUInt32.toInt32)), .val (.int ((x4 &&& (255 : Int32)).toUInt32.toUInt16.toUInt32.toInt32)), .val (.int ((x5 &&& (255 : Int32)).toUInt32.toUInt16.toUInt32.toInt32)), .val (.ref sa), .val (.int (0 : Int32))] [(.int (1 : Int32))]))
      refine GoW.of (fun _ q => XS.goto X9.here hx rfl (pc0 := 116) (pc' := 120) rfl (hb hby at_116) (by decide) (by decide) q) ?_
      show GoW _ _ _ _ _ _ _ (T9.setTop (mkF m 120 #[.val (.int x1), .val (.int x2), .val (.int x3), .val (.int x4), .val (.int x5), .val (.int x6), .val (.int (3 : Int32)), .val (.int ((x1 &&& (255 : Int32)).toUInt32.toUInt16.toUInt32.toInt32)), .val (.int ((x2 &&& (255 : Int32)).toUInt32.toUInt16.toUInt32.toInt32)), .val (.int ((x3 &&& (255 : Int32)).toUInt32.toUInt16.toUInt32.toInt32)), .val (.int ((x4 &&& (255 : Int32)).toUInt32.toUInt16.toUInt32.toInt32)), .val (.int ((x5 &&& (255 : Int32)).toUInt32.toUInt16.toUInt32.toInt32)), .val (.ref sa), .val (.int (0 : Int32))] [(.int (1 : Int32))]))
      refine GoW.retN X9 hS (by rw [e9]; exact hk) hx hlk (t := .boolean) hret (by simp) (hb hby at_120) rfl (by decide) (by decide) ?_
      rw [e9]
      exact ⟨rfl, N9⟩
    · refine GoW.of (fun _ q => XS.ifNo X8.here hx rfl (hb hby at_79) rfl ((if0 _ _).trans (feq c79).1) q) ?_
      show GoW _ _ _ _ _ _ _ (T8.setTop (mkF m 82 #[.val (.int x1), .val (.int x2), .val (.int x3), .val (.int x4), .val (.int x5), .val (.int x6), .val (.int (3 : Int32)), .val (.int ((x1 &&& (255 : Int32)).toUInt32.toUInt16.toUInt32.toInt32)), .val (.int ((x2 &&& (255 : Int32)).toUInt32.toUInt16.toUInt32.toInt32)), .val (.int ((x3 &&& (255 : Int32)).toUInt32.toUInt16.toUInt32.toInt32)), .val (.int ((x4 &&& (255 : Int32)).toUInt32.toUInt16.toUInt32.toInt32)), .val (.int ((x5 &&& (255 : Int32)).toUInt32.toUInt16.toUInt32.toInt32)), .val (.ref sa), .unset] []))
      refine GoW.of (fun _ q => XS.iload X8.here hx rfl (hb hby at_82) rfl q) ?_
      show GoW _ _ _ _ _ _ _ (T8.setTop (mkF m 84 #[.val (.int x1), .val (.int x2), .val (.int x3), .val (.int x4), .val (.int x5), .val (.int x6), .val (.int (3 : Int32)), .val (.int ((x1 &&& (255 : Int32)).toUInt32.toUInt16.toUInt32.toInt32)), .val (.int ((x2 &&& (255 : Int32)).toUInt32.toUInt16.toUInt32.toInt32)), .val (.int ((x3 &&& (255 : Int32)).toUInt32.toUInt16.toUInt32.toInt32)), .val (.int ((x4 &&& (255 : Int32)).toUInt32.toUInt16.toUInt32.toInt32)), .val (.int ((x5 &&& (255 : Int32)).toUInt32.toUInt16.toUInt32.toInt32)), .val (.ref sa), .unset] [(.int ((x2 &&& (255 : Int32)).toUInt32.toUInt16.toUInt32.toInt32))]))
      refine callStatic GoW.of X8 hx hZ (y := (⟨"com/example/ddos_fee_ledger/ddosfeeledger/MoneyIsCurrencyPinLaw", "upper", "(C)Z"⟩ : MethodName)) (argsL := [(.int ((x2 &&& (255 : Int32)).toUInt32.toUInt16.toUInt32.toInt32))]) hown (hw _ (List.mem_of_getElem? (i := 35) rfl)) (hw _ (List.mem_of_getElem? (i := 36) rfl)) (hw _ (List.mem_of_getElem? (i := 3) rfl)) (hw _ (List.mem_of_getElem? (i := 37) rfl)) (by decide) 0 e8 (rm8 l Z a0 hw ((x2 &&& (255 : Int32)).toUInt32.toUInt16.toUInt32.toInt32) T7.heap n0 Zs ) (by decide) (by decide) (by decide) (by decide) (g := (mkF m 84 #[.val (.int x1), .val (.int x2), .val (.int x3), .val (.int x4), .val (.int x5), .val (.int x6), .val (.int (3 : Int32)), .val (.int ((x1 &&& (255 : Int32)).toUInt32.toUInt16.toUInt32.toInt32)), .val (.int ((x2 &&& (255 : Int32)).toUInt32.toUInt16.toUInt32.toInt32)), .val (.int ((x3 &&& (255 : Int32)).toUInt32.toUInt16.toUInt32.toInt32)), .val (.int ((x4 &&& (255 : Int32)).toUInt32.toUInt16.toUInt32.toInt32)), .val (.int ((x5 &&& (255 : Int32)).toUInt32.toUInt16.toUInt32.toInt32)), .val (.ref sa), .unset] [(.int ((x2 &&& (255 : Int32)).toUInt32.toUInt16.toUInt32.toInt32))])) rfl (by rw [hml]; rfl) (rest := []) (lenOf pd7 rfl) rfl (by show 2 * 0 + _ ≤ _; exact Nat.le_of_eq rfl) (hb hby at_84) ?_
      intro T10 v10 L10 X10 q10
      obtain ⟨rfl, Nq10, e10⟩ := q10
      have N10 := Fr.app N8 Nq10
      show GoW _ _ _ _ _ _ _ (T10.setTop (mkF m 87 #[.val (.int x1), .val (.int x2), .val (.int x3), .val (.int x4), .val (.int x5), .val (.int x6), .val (.int (3 : Int32)), .val (.int ((x1 &&& (255 : Int32)).toUInt32.toUInt16.toUInt32.toInt32)), .val (.int ((x2 &&& (255 : Int32)).toUInt32.toUInt16.toUInt32.toInt32)), .val (.int ((x3 &&& (255 : Int32)).toUInt32.toUInt16.toUInt32.toInt32)), .val (.int ((x4 &&& (255 : Int32)).toUInt32.toUInt16.toUInt32.toInt32)), .val (.int ((x5 &&& (255 : Int32)).toUInt32.toUInt16.toUInt32.toInt32)), .val (.ref sa), .unset] [(.int (own_up ((x2 &&& (255 : Int32)).toUInt32.toUInt16.toUInt32.toInt32)))]))
      by_cases c87 : (own_up ((x2 &&& (255 : Int32)).toUInt32.toUInt16.toUInt32.toInt32)) = (0 : Int32)
      · refine GoW.of (fun _ q => XS.ifYes X10.here hx rfl (pc0 := 87) (pc' := 102) rfl (hb hby at_87) rfl ((if0 _ _).trans (teq c87).1) (by decide) (by decide) q) ?_
        show GoW _ _ _ _ _ _ _ (T10.setTop (mkF m 102 #[.val (.int x1), .val (.int x2), .val (.int x3), .val (.int x4), .val (.int x5), .val (.int x6), .val (.int (3 : Int32)), .val (.int ((x1 &&& (255 : Int32)).toUInt32.toUInt16.toUInt32.toInt32)), .val (.int ((x2 &&& (255 : Int32)).toUInt32.toUInt16.toUInt32.toInt32)), .val (.int ((x3 &&& (255 : Int32)).toUInt32.toUInt16.toUInt32.toInt32)), .val (.int ((x4 &&& (255 : Int32)).toUInt32.toUInt16.toUInt32.toInt32)), .val (.int ((x5 &&& (255 : Int32)).toUInt32.toUInt16.toUInt32.toInt32)), .val (.ref sa), .unset] []))
        refine GoW.of (fun _ q => XS.iconst X10.here hx rfl (hb hby at_102) q) ?_
        show GoW _ _ _ _ _ _ _ (T10.setTop (mkF m 103 #[.val (.int x1), .val (.int x2), .val (.int x3), .val (.int x4), .val (.int x5), .val (.int x6), .val (.int (3 : Int32)), .val (.int ((x1 &&& (255 : Int32)).toUInt32.toUInt16.toUInt32.toInt32)), .val (.int ((x2 &&& (255 : Int32)).toUInt32.toUInt16.toUInt32.toInt32)), .val (.int ((x3 &&& (255 : Int32)).toUInt32.toUInt16.toUInt32.toInt32)), .val (.int ((x4 &&& (255 : Int32)).toUInt32.toUInt16.toUInt32.toInt32)), .val (.int ((x5 &&& (255 : Int32)).toUInt32.toUInt16.toUInt32.toInt32)), .val (.ref sa), .unset] [(.int (0 : Int32))]))
        refine GoW.of (fun _ q => XS.istore X10.here hx rfl (hb hby at_103) rfl (l' := #[.val (.int x1), .val (.int x2), .val (.int x3), .val (.int x4), .val (.int x5), .val (.int x6), .val (.int (3 : Int32)), .val (.int ((x1 &&& (255 : Int32)).toUInt32.toUInt16.toUInt32.toInt32)), .val (.int ((x2 &&& (255 : Int32)).toUInt32.toUInt16.toUInt32.toInt32)), .val (.int ((x3 &&& (255 : Int32)).toUInt32.toUInt16.toUInt32.toInt32)), .val (.int ((x4 &&& (255 : Int32)).toUInt32.toUInt16.toUInt32.toInt32)), .val (.int ((x5 &&& (255 : Int32)).toUInt32.toUInt16.toUInt32.toInt32)), .val (.ref sa), .val (.int (0 : Int32))]) rfl q) ?_
        show GoW _ _ _ _ _ _ _ (T10.setTop (mkF m 105 #[.val (.int x1), .val (.int x2), .val (.int x3), .val (.int x4), .val (.int x5), .val (.int x6), .val (.int (3 : Int32)), .val (.int ((x1 &&& (255 : Int32)).toUInt32.toUInt16.toUInt32.toInt32)), .val (.int ((x2 &&& (255 : Int32)).toUInt32.toUInt16.toUInt32.toInt32)), .val (.int ((x3 &&& (255 : Int32)).toUInt32.toUInt16.toUInt32.toInt32)), .val (.int ((x4 &&& (255 : Int32)).toUInt32.toUInt16.toUInt32.toInt32)), .val (.int ((x5 &&& (255 : Int32)).toUInt32.toUInt16.toUInt32.toInt32)), .val (.ref sa), .val (.int (0 : Int32))] []))
        refine GoW.of (fun _ q => XS.aload X10.here hx rfl (hb hby at_105) rfl rfl q) ?_
        show GoW _ _ _ _ _ _ _ (T10.setTop (mkF m 107 #[.val (.int x1), .val (.int x2), .val (.int x3), .val (.int x4), .val (.int x5), .val (.int x6), .val (.int (3 : Int32)), .val (.int ((x1 &&& (255 : Int32)).toUInt32.toUInt16.toUInt32.toInt32)), .val (.int ((x2 &&& (255 : Int32)).toUInt32.toUInt16.toUInt32.toInt32)), .val (.int ((x3 &&& (255 : Int32)).toUInt32.toUInt16.toUInt32.toInt32)), .val (.int ((x4 &&& (255 : Int32)).toUInt32.toUInt16.toUInt32.toInt32)), .val (.int ((x5 &&& (255 : Int32)).toUInt32.toUInt16.toUInt32.toInt32)), .val (.ref sa), .val (.int (0 : Int32))] [(.ref sa)]))
        refine callStatic GoW.of X10 hx hZ (y := (⟨"com/example/ddos_fee_ledger/ddosfeeledger/Money", "isCurrency", "(Ljava/lang/String;)Z"⟩ : MethodName)) (argsL := [(.ref sa)]) hown (hw _ (List.mem_of_getElem? (i := 38) rfl)) (hw _ (List.mem_of_getElem? (i := 39) rfl)) (hw _ (List.mem_of_getElem? (i := 40) rfl)) (hw _ (List.mem_of_getElem? (i := 41) rfl)) (by decide) 0 e10 (rm9_3 l Z a0 hw sa d kd0 (fun i => own_by (own_p3 ((x1 &&& (255 : Int32)).toUInt32.toUInt16.toUInt32.toInt32) ((x2 &&& (255 : Int32)).toUInt32.toUInt16.toUInt32.toInt32) ((x3 &&& (255 : Int32)).toUInt32.toUInt16.toUInt32.toInt32) i)) fm hfm cs T7.heap n0 Zs Od E_sa F_sa_value F_sa_coder A_d Sfm Scs hcs) (by decide) (by decide) (by decide) (by decide) (g := (mkF m 107 #[.val (.int x1), .val (.int x2), .val (.int x3), .val (.int x4), .val (.int x5), .val (.int x6), .val (.int (3 : Int32)), .val (.int ((x1 &&& (255 : Int32)).toUInt32.toUInt16.toUInt32.toInt32)), .val (.int ((x2 &&& (255 : Int32)).toUInt32.toUInt16.toUInt32.toInt32)), .val (.int ((x3 &&& (255 : Int32)).toUInt32.toUInt16.toUInt32.toInt32)), .val (.int ((x4 &&& (255 : Int32)).toUInt32.toUInt16.toUInt32.toInt32)), .val (.int ((x5 &&& (255 : Int32)).toUInt32.toUInt16.toUInt32.toInt32)), .val (.ref sa), .val (.int (0 : Int32))] [(.ref sa)])) rfl (by rw [hml]; rfl) (rest := []) (lenOf pd17 rfl) rfl (by show 2 * 0 + _ ≤ _; exact Nat.le_of_eq rfl) (hb hby at_107) ?_
        intro T11 v11 L11 X11 q11
        obtain ⟨rfl, Nq11, e11⟩ := q11
        have N11 := Fr.app N10 Nq11
        show GoW _ _ _ _ _ _ _ (T11.setTop (mkF m 110 #[.val (.int x1), .val (.int x2), .val (.int x3), .val (.int x4), .val (.int x5), .val (.int x6), .val (.int (3 : Int32)), .val (.int ((x1 &&& (255 : Int32)).toUInt32.toUInt16.toUInt32.toInt32)), .val (.int ((x2 &&& (255 : Int32)).toUInt32.toUInt16.toUInt32.toInt32)), .val (.int ((x3 &&& (255 : Int32)).toUInt32.toUInt16.toUInt32.toInt32)), .val (.int ((x4 &&& (255 : Int32)).toUInt32.toUInt16.toUInt32.toInt32)), .val (.int ((x5 &&& (255 : Int32)).toUInt32.toUInt16.toUInt32.toInt32)), .val (.ref sa), .val (.int (0 : Int32))] [(.int (own_cur (own_ch ((fun i => own_by (own_p3 ((x1 &&& (255 : Int32)).toUInt32.toUInt16.toUInt32.toInt32) ((x2 &&& (255 : Int32)).toUInt32.toUInt16.toUInt32.toInt32) ((x3 &&& (255 : Int32)).toUInt32.toUInt16.toUInt32.toInt32) i)) 0)) (own_ch ((fun i => own_by (own_p3 ((x1 &&& (255 : Int32)).toUInt32.toUInt16.toUInt32.toInt32) ((x2 &&& (255 : Int32)).toUInt32.toUInt16.toUInt32.toInt32) ((x3 &&& (255 : Int32)).toUInt32.toUInt16.toUInt32.toInt32) i)) 1)) (own_ch ((fun i => own_by (own_p3 ((x1 &&& (255 : Int32)).toUInt32.toUInt16.toUInt32.toInt32) ((x2 &&& (255 : Int32)).toUInt32.toUInt16.toUInt32.toInt32) ((x3 &&& (255 : Int32)).toUInt32.toUInt16.toUInt32.toInt32) i)) 2))))]))
        refine GoW.of (fun _ q => XS.iload X11.here hx rfl (hb hby at_110) rfl q) ?_
        show GoW _ _ _ _ _ _ _ (T11.setTop (mkF m 112 #[.val (.int x1), .val (.int x2), .val (.int x3), .val (.int x4), .val (.int x5), .val (.int x6), .val (.int (3 : Int32)), .val (.int ((x1 &&& (255 : Int32)).toUInt32.toUInt16.toUInt32.toInt32)), .val (.int ((x2 &&& (255 : Int32)).toUInt32.toUInt16.toUInt32.toInt32)), .val (.int ((x3 &&& (255 : Int32)).toUInt32.toUInt16.toUInt32.toInt32)), .val (.int ((x4 &&& (255 : Int32)).toUInt32.toUInt16.toUInt32.toInt32)), .val (.int ((x5 &&& (255 : Int32)).toUInt32.toUInt16.toUInt32.toInt32)), .val (.ref sa), .val (.int (0 : Int32))] [(.int (0 : Int32)), (.int (own_cur (own_ch ((fun i => own_by (own_p3 ((x1 &&& (255 : Int32)).toUInt32.toUInt16.toUInt32.toInt32) ((x2 &&& (255 : Int32)).toUInt32.toUInt16.toUInt32.toInt32) ((x3 &&& (255 : Int32)).toUInt32.toUInt16.toUInt32.toInt32) i)) 0)) (own_ch ((fun i => own_by (own_p3 ((x1 &&& (255 : Int32)).toUInt32.toUInt16.toUInt32.toInt32) ((x2 &&& (255 : Int32)).toUInt32.toUInt16.toUInt32.toInt32) ((x3 &&& (255 : Int32)).toUInt32.toUInt16.toUInt32.toInt32) i)) 1)) (own_ch ((fun i => own_by (own_p3 ((x1 &&& (255 : Int32)).toUInt32.toUInt16.toUInt32.toInt32) ((x2 &&& (255 : Int32)).toUInt32.toUInt16.toUInt32.toInt32) ((x3 &&& (255 : Int32)).toUInt32.toUInt16.toUInt32.toInt32) i)) 2))))]))
        refine GoW.of (fun _ q => XS.icmpNo X11.here hx rfl (hb hby at_112) rfl (teq (by show own_cur (own_ch (own_by (((x1 &&& (255 : Int32)).toUInt32.toUInt16.toUInt32.toInt32).toUInt32.toUInt16.toUInt32.toInt32))) (own_ch (own_by (((x2 &&& (255 : Int32)).toUInt32.toUInt16.toUInt32.toInt32).toUInt32.toUInt16.toUInt32.toInt32))) (own_ch (own_by (((x3 &&& (255 : Int32)).toUInt32.toUInt16.toUInt32.toInt32).toUInt32.toUInt16.toUInt32.toInt32))) = _; rw [own_chk, own_chk, own_chk, own_cur_eq, if_neg c79, if_pos c87])).2 q) ?_
        show GoW _ _ _ _ _ _ _ (T11.setTop (mkF m 115 #[.val (.int x1), .val (.int x2), .val (.int x3), .val (.int x4), .val (.int x5), .val (.int x6), .val (.int (3 : Int32)), .val (.int ((x1 &&& (255 : Int32)).toUInt32.toUInt16.toUInt32.toInt32)), .val (.int ((x2 &&& (255 : Int32)).toUInt32.toUInt16.toUInt32.toInt32)), .val (.int ((x3 &&& (255 : Int32)).toUInt32.toUInt16.toUInt32.toInt32)), .val (.int ((x4 &&& (255 : Int32)).toUInt32.toUInt16.toUInt32.toInt32)), .val (.int ((x5 &&& (255 : Int32)).toUInt32.toUInt16.toUInt32.toInt32)), .val (.ref sa), .val (.int (0 : Int32))] []))
        refine GoW.of (fun _ q => XS.iconst X11.here hx rfl (hb hby at_115) q) ?_
        show GoW _ _ _ _ _ _ _ (T11.setTop (mkF m 116 #[.val (.int x1), .val (.int x2), .val (.int x3), .val (.int x4), .val (.int x5), .val (.int x6), .val (.int (3 : Int32)), .val (.int ((x1 &&& (255 : Int32)).toUInt32.toUInt16.toUInt32.toInt32)), .val (.int ((x2 &&& (255 : Int32)).toUInt32.toUInt16.toUInt32.toInt32)), .val (.int ((x3 &&& (255 : Int32)).toUInt32.toUInt16.toUInt32.toInt32)), .val (.int ((x4 &&& (255 : Int32)).toUInt32.toUInt16.toUInt32.toInt32)), .val (.int ((x5 &&& (255 : Int32)).toUInt32.toUInt16.toUInt32.toInt32)), .val (.ref sa), .val (.int (0 : Int32))] [(.int (1 : Int32))]))
        refine GoW.of (fun _ q => XS.goto X11.here hx rfl (pc0 := 116) (pc' := 120) rfl (hb hby at_116) (by decide) (by decide) q) ?_
        show GoW _ _ _ _ _ _ _ (T11.setTop (mkF m 120 #[.val (.int x1), .val (.int x2), .val (.int x3), .val (.int x4), .val (.int x5), .val (.int x6), .val (.int (3 : Int32)), .val (.int ((x1 &&& (255 : Int32)).toUInt32.toUInt16.toUInt32.toInt32)), .val (.int ((x2 &&& (255 : Int32)).toUInt32.toUInt16.toUInt32.toInt32)), .val (.int ((x3 &&& (255 : Int32)).toUInt32.toUInt16.toUInt32.toInt32)), .val (.int ((x4 &&& (255 : Int32)).toUInt32.toUInt16.toUInt32.toInt32)), .val (.int ((x5 &&& (255 : Int32)).toUInt32.toUInt16.toUInt32.toInt32)), .val (.ref sa), .val (.int (0 : Int32))] [(.int (1 : Int32))]))
        refine GoW.retN X11 hS (by rw [e11]; exact hk) hx hlk (t := .boolean) hret (by simp) (hb hby at_120) rfl (by decide) (by decide) ?_
        rw [e11]
        exact ⟨rfl, N11⟩
      · refine GoW.of (fun _ q => XS.ifNo X10.here hx rfl (hb hby at_87) rfl ((if0 _ _).trans (feq c87).1) q) ?_
        show GoW _ _ _ _ _ _ _ (T10.setTop (mkF m 90 #[.val (.int x1), .val (.int x2), .val (.int x3), .val (.int x4), .val (.int x5), .val (.int x6), .val (.int (3 : Int32)), .val (.int ((x1 &&& (255 : Int32)).toUInt32.toUInt16.toUInt32.toInt32)), .val (.int ((x2 &&& (255 : Int32)).toUInt32.toUInt16.toUInt32.toInt32)), .val (.int ((x3 &&& (255 : Int32)).toUInt32.toUInt16.toUInt32.toInt32)), .val (.int ((x4 &&& (255 : Int32)).toUInt32.toUInt16.toUInt32.toInt32)), .val (.int ((x5 &&& (255 : Int32)).toUInt32.toUInt16.toUInt32.toInt32)), .val (.ref sa), .unset] []))
        refine GoW.of (fun _ q => XS.iload X10.here hx rfl (hb hby at_90) rfl q) ?_
        show GoW _ _ _ _ _ _ _ (T10.setTop (mkF m 92 #[.val (.int x1), .val (.int x2), .val (.int x3), .val (.int x4), .val (.int x5), .val (.int x6), .val (.int (3 : Int32)), .val (.int ((x1 &&& (255 : Int32)).toUInt32.toUInt16.toUInt32.toInt32)), .val (.int ((x2 &&& (255 : Int32)).toUInt32.toUInt16.toUInt32.toInt32)), .val (.int ((x3 &&& (255 : Int32)).toUInt32.toUInt16.toUInt32.toInt32)), .val (.int ((x4 &&& (255 : Int32)).toUInt32.toUInt16.toUInt32.toInt32)), .val (.int ((x5 &&& (255 : Int32)).toUInt32.toUInt16.toUInt32.toInt32)), .val (.ref sa), .unset] [(.int ((x3 &&& (255 : Int32)).toUInt32.toUInt16.toUInt32.toInt32))]))
        refine callStatic GoW.of X10 hx hZ (y := (⟨"com/example/ddos_fee_ledger/ddosfeeledger/MoneyIsCurrencyPinLaw", "upper", "(C)Z"⟩ : MethodName)) (argsL := [(.int ((x3 &&& (255 : Int32)).toUInt32.toUInt16.toUInt32.toInt32))]) hown (hw _ (List.mem_of_getElem? (i := 35) rfl)) (hw _ (List.mem_of_getElem? (i := 36) rfl)) (hw _ (List.mem_of_getElem? (i := 3) rfl)) (hw _ (List.mem_of_getElem? (i := 37) rfl)) (by decide) 0 e10 (rm8 l Z a0 hw ((x3 &&& (255 : Int32)).toUInt32.toUInt16.toUInt32.toInt32) T7.heap n0 Zs ) (by decide) (by decide) (by decide) (by decide) (g := (mkF m 92 #[.val (.int x1), .val (.int x2), .val (.int x3), .val (.int x4), .val (.int x5), .val (.int x6), .val (.int (3 : Int32)), .val (.int ((x1 &&& (255 : Int32)).toUInt32.toUInt16.toUInt32.toInt32)), .val (.int ((x2 &&& (255 : Int32)).toUInt32.toUInt16.toUInt32.toInt32)), .val (.int ((x3 &&& (255 : Int32)).toUInt32.toUInt16.toUInt32.toInt32)), .val (.int ((x4 &&& (255 : Int32)).toUInt32.toUInt16.toUInt32.toInt32)), .val (.int ((x5 &&& (255 : Int32)).toUInt32.toUInt16.toUInt32.toInt32)), .val (.ref sa), .unset] [(.int ((x3 &&& (255 : Int32)).toUInt32.toUInt16.toUInt32.toInt32))])) rfl (by rw [hml]; rfl) (rest := []) (lenOf pd7 rfl) rfl (by show 2 * 0 + _ ≤ _; exact Nat.le_of_eq rfl) (hb hby at_92) ?_
        intro T12 v12 L12 X12 q12
        obtain ⟨rfl, Nq12, e12⟩ := q12
        have N12 := Fr.app N10 Nq12
        show GoW _ _ _ _ _ _ _ (T12.setTop (mkF m 95 #[.val (.int x1), .val (.int x2), .val (.int x3), .val (.int x4), .val (.int x5), .val (.int x6), .val (.int (3 : Int32)), .val (.int ((x1 &&& (255 : Int32)).toUInt32.toUInt16.toUInt32.toInt32)), .val (.int ((x2 &&& (255 : Int32)).toUInt32.toUInt16.toUInt32.toInt32)), .val (.int ((x3 &&& (255 : Int32)).toUInt32.toUInt16.toUInt32.toInt32)), .val (.int ((x4 &&& (255 : Int32)).toUInt32.toUInt16.toUInt32.toInt32)), .val (.int ((x5 &&& (255 : Int32)).toUInt32.toUInt16.toUInt32.toInt32)), .val (.ref sa), .unset] [(.int (own_up ((x3 &&& (255 : Int32)).toUInt32.toUInt16.toUInt32.toInt32)))]))
        by_cases c95 : (own_up ((x3 &&& (255 : Int32)).toUInt32.toUInt16.toUInt32.toInt32)) = (0 : Int32)
        · refine GoW.of (fun _ q => XS.ifYes X12.here hx rfl (pc0 := 95) (pc' := 102) rfl (hb hby at_95) rfl ((if0 _ _).trans (teq c95).1) (by decide) (by decide) q) ?_
          show GoW _ _ _ _ _ _ _ (T12.setTop (mkF m 102 #[.val (.int x1), .val (.int x2), .val (.int x3), .val (.int x4), .val (.int x5), .val (.int x6), .val (.int (3 : Int32)), .val (.int ((x1 &&& (255 : Int32)).toUInt32.toUInt16.toUInt32.toInt32)), .val (.int ((x2 &&& (255 : Int32)).toUInt32.toUInt16.toUInt32.toInt32)), .val (.int ((x3 &&& (255 : Int32)).toUInt32.toUInt16.toUInt32.toInt32)), .val (.int ((x4 &&& (255 : Int32)).toUInt32.toUInt16.toUInt32.toInt32)), .val (.int ((x5 &&& (255 : Int32)).toUInt32.toUInt16.toUInt32.toInt32)), .val (.ref sa), .unset] []))
          refine GoW.of (fun _ q => XS.iconst X12.here hx rfl (hb hby at_102) q) ?_
          show GoW _ _ _ _ _ _ _ (T12.setTop (mkF m 103 #[.val (.int x1), .val (.int x2), .val (.int x3), .val (.int x4), .val (.int x5), .val (.int x6), .val (.int (3 : Int32)), .val (.int ((x1 &&& (255 : Int32)).toUInt32.toUInt16.toUInt32.toInt32)), .val (.int ((x2 &&& (255 : Int32)).toUInt32.toUInt16.toUInt32.toInt32)), .val (.int ((x3 &&& (255 : Int32)).toUInt32.toUInt16.toUInt32.toInt32)), .val (.int ((x4 &&& (255 : Int32)).toUInt32.toUInt16.toUInt32.toInt32)), .val (.int ((x5 &&& (255 : Int32)).toUInt32.toUInt16.toUInt32.toInt32)), .val (.ref sa), .unset] [(.int (0 : Int32))]))
          refine GoW.of (fun _ q => XS.istore X12.here hx rfl (hb hby at_103) rfl (l' := #[.val (.int x1), .val (.int x2), .val (.int x3), .val (.int x4), .val (.int x5), .val (.int x6), .val (.int (3 : Int32)), .val (.int ((x1 &&& (255 : Int32)).toUInt32.toUInt16.toUInt32.toInt32)), .val (.int ((x2 &&& (255 : Int32)).toUInt32.toUInt16.toUInt32.toInt32)), .val (.int ((x3 &&& (255 : Int32)).toUInt32.toUInt16.toUInt32.toInt32)), .val (.int ((x4 &&& (255 : Int32)).toUInt32.toUInt16.toUInt32.toInt32)), .val (.int ((x5 &&& (255 : Int32)).toUInt32.toUInt16.toUInt32.toInt32)), .val (.ref sa), .val (.int (0 : Int32))]) rfl q) ?_
          show GoW _ _ _ _ _ _ _ (T12.setTop (mkF m 105 #[.val (.int x1), .val (.int x2), .val (.int x3), .val (.int x4), .val (.int x5), .val (.int x6), .val (.int (3 : Int32)), .val (.int ((x1 &&& (255 : Int32)).toUInt32.toUInt16.toUInt32.toInt32)), .val (.int ((x2 &&& (255 : Int32)).toUInt32.toUInt16.toUInt32.toInt32)), .val (.int ((x3 &&& (255 : Int32)).toUInt32.toUInt16.toUInt32.toInt32)), .val (.int ((x4 &&& (255 : Int32)).toUInt32.toUInt16.toUInt32.toInt32)), .val (.int ((x5 &&& (255 : Int32)).toUInt32.toUInt16.toUInt32.toInt32)), .val (.ref sa), .val (.int (0 : Int32))] []))
          refine GoW.of (fun _ q => XS.aload X12.here hx rfl (hb hby at_105) rfl rfl q) ?_
          show GoW _ _ _ _ _ _ _ (T12.setTop (mkF m 107 #[.val (.int x1), .val (.int x2), .val (.int x3), .val (.int x4), .val (.int x5), .val (.int x6), .val (.int (3 : Int32)), .val (.int ((x1 &&& (255 : Int32)).toUInt32.toUInt16.toUInt32.toInt32)), .val (.int ((x2 &&& (255 : Int32)).toUInt32.toUInt16.toUInt32.toInt32)), .val (.int ((x3 &&& (255 : Int32)).toUInt32.toUInt16.toUInt32.toInt32)), .val (.int ((x4 &&& (255 : Int32)).toUInt32.toUInt16.toUInt32.toInt32)), .val (.int ((x5 &&& (255 : Int32)).toUInt32.toUInt16.toUInt32.toInt32)), .val (.ref sa), .val (.int (0 : Int32))] [(.ref sa)]))
          refine callStatic GoW.of X12 hx hZ (y := (⟨"com/example/ddos_fee_ledger/ddosfeeledger/Money", "isCurrency", "(Ljava/lang/String;)Z"⟩ : MethodName)) (argsL := [(.ref sa)]) hown (hw _ (List.mem_of_getElem? (i := 38) rfl)) (hw _ (List.mem_of_getElem? (i := 39) rfl)) (hw _ (List.mem_of_getElem? (i := 40) rfl)) (hw _ (List.mem_of_getElem? (i := 41) rfl)) (by decide) 0 e12 (rm9_3 l Z a0 hw sa d kd0 (fun i => own_by (own_p3 ((x1 &&& (255 : Int32)).toUInt32.toUInt16.toUInt32.toInt32) ((x2 &&& (255 : Int32)).toUInt32.toUInt16.toUInt32.toInt32) ((x3 &&& (255 : Int32)).toUInt32.toUInt16.toUInt32.toInt32) i)) fm hfm cs T7.heap n0 Zs Od E_sa F_sa_value F_sa_coder A_d Sfm Scs hcs) (by decide) (by decide) (by decide) (by decide) (g := (mkF m 107 #[.val (.int x1), .val (.int x2), .val (.int x3), .val (.int x4), .val (.int x5), .val (.int x6), .val (.int (3 : Int32)), .val (.int ((x1 &&& (255 : Int32)).toUInt32.toUInt16.toUInt32.toInt32)), .val (.int ((x2 &&& (255 : Int32)).toUInt32.toUInt16.toUInt32.toInt32)), .val (.int ((x3 &&& (255 : Int32)).toUInt32.toUInt16.toUInt32.toInt32)), .val (.int ((x4 &&& (255 : Int32)).toUInt32.toUInt16.toUInt32.toInt32)), .val (.int ((x5 &&& (255 : Int32)).toUInt32.toUInt16.toUInt32.toInt32)), .val (.ref sa), .val (.int (0 : Int32))] [(.ref sa)])) rfl (by rw [hml]; rfl) (rest := []) (lenOf pd17 rfl) rfl (by show 2 * 0 + _ ≤ _; exact Nat.le_of_eq rfl) (hb hby at_107) ?_
          intro T13 v13 L13 X13 q13
          obtain ⟨rfl, Nq13, e13⟩ := q13
          have N13 := Fr.app N12 Nq13
          show GoW _ _ _ _ _ _ _ (T13.setTop (mkF m 110 #[.val (.int x1), .val (.int x2), .val (.int x3), .val (.int x4), .val (.int x5), .val (.int x6), .val (.int (3 : Int32)), .val (.int ((x1 &&& (255 : Int32)).toUInt32.toUInt16.toUInt32.toInt32)), .val (.int ((x2 &&& (255 : Int32)).toUInt32.toUInt16.toUInt32.toInt32)), .val (.int ((x3 &&& (255 : Int32)).toUInt32.toUInt16.toUInt32.toInt32)), .val (.int ((x4 &&& (255 : Int32)).toUInt32.toUInt16.toUInt32.toInt32)), .val (.int ((x5 &&& (255 : Int32)).toUInt32.toUInt16.toUInt32.toInt32)), .val (.ref sa), .val (.int (0 : Int32))] [(.int (own_cur (own_ch ((fun i => own_by (own_p3 ((x1 &&& (255 : Int32)).toUInt32.toUInt16.toUInt32.toInt32) ((x2 &&& (255 : Int32)).toUInt32.toUInt16.toUInt32.toInt32) ((x3 &&& (255 : Int32)).toUInt32.toUInt16.toUInt32.toInt32) i)) 0)) (own_ch ((fun i => own_by (own_p3 ((x1 &&& (255 : Int32)).toUInt32.toUInt16.toUInt32.toInt32) ((x2 &&& (255 : Int32)).toUInt32.toUInt16.toUInt32.toInt32) ((x3 &&& (255 : Int32)).toUInt32.toUInt16.toUInt32.toInt32) i)) 1)) (own_ch ((fun i => own_by (own_p3 ((x1 &&& (255 : Int32)).toUInt32.toUInt16.toUInt32.toInt32) ((x2 &&& (255 : Int32)).toUInt32.toUInt16.toUInt32.toInt32) ((x3 &&& (255 : Int32)).toUInt32.toUInt16.toUInt32.toInt32) i)) 2))))]))
          refine GoW.of (fun _ q => XS.iload X13.here hx rfl (hb hby at_110) rfl q) ?_
          show GoW _ _ _ _ _ _ _ (T13.setTop (mkF m 112 #[.val (.int x1), .val (.int x2), .val (.int x3), .val (.int x4), .val (.int x5), .val (.int x6), .val (.int (3 : Int32)), .val (.int ((x1 &&& (255 : Int32)).toUInt32.toUInt16.toUInt32.toInt32)), .val (.int ((x2 &&& (255 : Int32)).toUInt32.toUInt16.toUInt32.toInt32)), .val (.int ((x3 &&& (255 : Int32)).toUInt32.toUInt16.toUInt32.toInt32)), .val (.int ((x4 &&& (255 : Int32)).toUInt32.toUInt16.toUInt32.toInt32)), .val (.int ((x5 &&& (255 : Int32)).toUInt32.toUInt16.toUInt32.toInt32)), .val (.ref sa), .val (.int (0 : Int32))] [(.int (0 : Int32)), (.int (own_cur (own_ch ((fun i => own_by (own_p3 ((x1 &&& (255 : Int32)).toUInt32.toUInt16.toUInt32.toInt32) ((x2 &&& (255 : Int32)).toUInt32.toUInt16.toUInt32.toInt32) ((x3 &&& (255 : Int32)).toUInt32.toUInt16.toUInt32.toInt32) i)) 0)) (own_ch ((fun i => own_by (own_p3 ((x1 &&& (255 : Int32)).toUInt32.toUInt16.toUInt32.toInt32) ((x2 &&& (255 : Int32)).toUInt32.toUInt16.toUInt32.toInt32) ((x3 &&& (255 : Int32)).toUInt32.toUInt16.toUInt32.toInt32) i)) 1)) (own_ch ((fun i => own_by (own_p3 ((x1 &&& (255 : Int32)).toUInt32.toUInt16.toUInt32.toInt32) ((x2 &&& (255 : Int32)).toUInt32.toUInt16.toUInt32.toInt32) ((x3 &&& (255 : Int32)).toUInt32.toUInt16.toUInt32.toInt32) i)) 2))))]))
          refine GoW.of (fun _ q => XS.icmpNo X13.here hx rfl (hb hby at_112) rfl (teq (by show own_cur (own_ch (own_by (((x1 &&& (255 : Int32)).toUInt32.toUInt16.toUInt32.toInt32).toUInt32.toUInt16.toUInt32.toInt32))) (own_ch (own_by (((x2 &&& (255 : Int32)).toUInt32.toUInt16.toUInt32.toInt32).toUInt32.toUInt16.toUInt32.toInt32))) (own_ch (own_by (((x3 &&& (255 : Int32)).toUInt32.toUInt16.toUInt32.toInt32).toUInt32.toUInt16.toUInt32.toInt32))) = _; rw [own_chk, own_chk, own_chk, own_cur_eq, if_neg c79, if_neg c87, if_pos c95])).2 q) ?_
          show GoW _ _ _ _ _ _ _ (T13.setTop (mkF m 115 #[.val (.int x1), .val (.int x2), .val (.int x3), .val (.int x4), .val (.int x5), .val (.int x6), .val (.int (3 : Int32)), .val (.int ((x1 &&& (255 : Int32)).toUInt32.toUInt16.toUInt32.toInt32)), .val (.int ((x2 &&& (255 : Int32)).toUInt32.toUInt16.toUInt32.toInt32)), .val (.int ((x3 &&& (255 : Int32)).toUInt32.toUInt16.toUInt32.toInt32)), .val (.int ((x4 &&& (255 : Int32)).toUInt32.toUInt16.toUInt32.toInt32)), .val (.int ((x5 &&& (255 : Int32)).toUInt32.toUInt16.toUInt32.toInt32)), .val (.ref sa), .val (.int (0 : Int32))] []))
          refine GoW.of (fun _ q => XS.iconst X13.here hx rfl (hb hby at_115) q) ?_
          show GoW _ _ _ _ _ _ _ (T13.setTop (mkF m 116 #[.val (.int x1), .val (.int x2), .val (.int x3), .val (.int x4), .val (.int x5), .val (.int x6), .val (.int (3 : Int32)), .val (.int ((x1 &&& (255 : Int32)).toUInt32.toUInt16.toUInt32.toInt32)), .val (.int ((x2 &&& (255 : Int32)).toUInt32.toUInt16.toUInt32.toInt32)), .val (.int ((x3 &&& (255 : Int32)).toUInt32.toUInt16.toUInt32.toInt32)), .val (.int ((x4 &&& (255 : Int32)).toUInt32.toUInt16.toUInt32.toInt32)), .val (.int ((x5 &&& (255 : Int32)).toUInt32.toUInt16.toUInt32.toInt32)), .val (.ref sa), .val (.int (0 : Int32))] [(.int (1 : Int32))]))
          refine GoW.of (fun _ q => XS.goto X13.here hx rfl (pc0 := 116) (pc' := 120) rfl (hb hby at_116) (by decide) (by decide) q) ?_
          show GoW _ _ _ _ _ _ _ (T13.setTop (mkF m 120 #[.val (.int x1), .val (.int x2), .val (.int x3), .val (.int x4), .val (.int x5), .val (.int x6), .val (.int (3 : Int32)), .val (.int ((x1 &&& (255 : Int32)).toUInt32.toUInt16.toUInt32.toInt32)), .val (.int ((x2 &&& (255 : Int32)).toUInt32.toUInt16.toUInt32.toInt32)), .val (.int ((x3 &&& (255 : Int32)).toUInt32.toUInt16.toUInt32.toInt32)), .val (.int ((x4 &&& (255 : Int32)).toUInt32.toUInt16.toUInt32.toInt32)), .val (.int ((x5 &&& (255 : Int32)).toUInt32.toUInt16.toUInt32.toInt32)), .val (.ref sa), .val (.int (0 : Int32))] [(.int (1 : Int32))]))
          refine GoW.retN X13 hS (by rw [e13]; exact hk) hx hlk (t := .boolean) hret (by simp) (hb hby at_120) rfl (by decide) (by decide) ?_
          rw [e13]
          exact ⟨rfl, N13⟩
        · refine GoW.of (fun _ q => XS.ifNo X12.here hx rfl (hb hby at_95) rfl ((if0 _ _).trans (feq c95).1) q) ?_
          show GoW _ _ _ _ _ _ _ (T12.setTop (mkF m 98 #[.val (.int x1), .val (.int x2), .val (.int x3), .val (.int x4), .val (.int x5), .val (.int x6), .val (.int (3 : Int32)), .val (.int ((x1 &&& (255 : Int32)).toUInt32.toUInt16.toUInt32.toInt32)), .val (.int ((x2 &&& (255 : Int32)).toUInt32.toUInt16.toUInt32.toInt32)), .val (.int ((x3 &&& (255 : Int32)).toUInt32.toUInt16.toUInt32.toInt32)), .val (.int ((x4 &&& (255 : Int32)).toUInt32.toUInt16.toUInt32.toInt32)), .val (.int ((x5 &&& (255 : Int32)).toUInt32.toUInt16.toUInt32.toInt32)), .val (.ref sa), .unset] []))
          refine GoW.of (fun _ q => XS.iconst X12.here hx rfl (hb hby at_98) q) ?_
          show GoW _ _ _ _ _ _ _ (T12.setTop (mkF m 99 #[.val (.int x1), .val (.int x2), .val (.int x3), .val (.int x4), .val (.int x5), .val (.int x6), .val (.int (3 : Int32)), .val (.int ((x1 &&& (255 : Int32)).toUInt32.toUInt16.toUInt32.toInt32)), .val (.int ((x2 &&& (255 : Int32)).toUInt32.toUInt16.toUInt32.toInt32)), .val (.int ((x3 &&& (255 : Int32)).toUInt32.toUInt16.toUInt32.toInt32)), .val (.int ((x4 &&& (255 : Int32)).toUInt32.toUInt16.toUInt32.toInt32)), .val (.int ((x5 &&& (255 : Int32)).toUInt32.toUInt16.toUInt32.toInt32)), .val (.ref sa), .unset] [(.int (1 : Int32))]))
          refine GoW.of (fun _ q => XS.goto X12.here hx rfl (pc0 := 99) (pc' := 103) rfl (hb hby at_99) (by decide) (by decide) q) ?_
          show GoW _ _ _ _ _ _ _ (T12.setTop (mkF m 103 #[.val (.int x1), .val (.int x2), .val (.int x3), .val (.int x4), .val (.int x5), .val (.int x6), .val (.int (3 : Int32)), .val (.int ((x1 &&& (255 : Int32)).toUInt32.toUInt16.toUInt32.toInt32)), .val (.int ((x2 &&& (255 : Int32)).toUInt32.toUInt16.toUInt32.toInt32)), .val (.int ((x3 &&& (255 : Int32)).toUInt32.toUInt16.toUInt32.toInt32)), .val (.int ((x4 &&& (255 : Int32)).toUInt32.toUInt16.toUInt32.toInt32)), .val (.int ((x5 &&& (255 : Int32)).toUInt32.toUInt16.toUInt32.toInt32)), .val (.ref sa), .unset] [(.int (1 : Int32))]))
          refine GoW.of (fun _ q => XS.istore X12.here hx rfl (hb hby at_103) rfl (l' := #[.val (.int x1), .val (.int x2), .val (.int x3), .val (.int x4), .val (.int x5), .val (.int x6), .val (.int (3 : Int32)), .val (.int ((x1 &&& (255 : Int32)).toUInt32.toUInt16.toUInt32.toInt32)), .val (.int ((x2 &&& (255 : Int32)).toUInt32.toUInt16.toUInt32.toInt32)), .val (.int ((x3 &&& (255 : Int32)).toUInt32.toUInt16.toUInt32.toInt32)), .val (.int ((x4 &&& (255 : Int32)).toUInt32.toUInt16.toUInt32.toInt32)), .val (.int ((x5 &&& (255 : Int32)).toUInt32.toUInt16.toUInt32.toInt32)), .val (.ref sa), .val (.int (1 : Int32))]) rfl q) ?_
          show GoW _ _ _ _ _ _ _ (T12.setTop (mkF m 105 #[.val (.int x1), .val (.int x2), .val (.int x3), .val (.int x4), .val (.int x5), .val (.int x6), .val (.int (3 : Int32)), .val (.int ((x1 &&& (255 : Int32)).toUInt32.toUInt16.toUInt32.toInt32)), .val (.int ((x2 &&& (255 : Int32)).toUInt32.toUInt16.toUInt32.toInt32)), .val (.int ((x3 &&& (255 : Int32)).toUInt32.toUInt16.toUInt32.toInt32)), .val (.int ((x4 &&& (255 : Int32)).toUInt32.toUInt16.toUInt32.toInt32)), .val (.int ((x5 &&& (255 : Int32)).toUInt32.toUInt16.toUInt32.toInt32)), .val (.ref sa), .val (.int (1 : Int32))] []))
          refine GoW.of (fun _ q => XS.aload X12.here hx rfl (hb hby at_105) rfl rfl q) ?_
          show GoW _ _ _ _ _ _ _ (T12.setTop (mkF m 107 #[.val (.int x1), .val (.int x2), .val (.int x3), .val (.int x4), .val (.int x5), .val (.int x6), .val (.int (3 : Int32)), .val (.int ((x1 &&& (255 : Int32)).toUInt32.toUInt16.toUInt32.toInt32)), .val (.int ((x2 &&& (255 : Int32)).toUInt32.toUInt16.toUInt32.toInt32)), .val (.int ((x3 &&& (255 : Int32)).toUInt32.toUInt16.toUInt32.toInt32)), .val (.int ((x4 &&& (255 : Int32)).toUInt32.toUInt16.toUInt32.toInt32)), .val (.int ((x5 &&& (255 : Int32)).toUInt32.toUInt16.toUInt32.toInt32)), .val (.ref sa), .val (.int (1 : Int32))] [(.ref sa)]))
          refine callStatic GoW.of X12 hx hZ (y := (⟨"com/example/ddos_fee_ledger/ddosfeeledger/Money", "isCurrency", "(Ljava/lang/String;)Z"⟩ : MethodName)) (argsL := [(.ref sa)]) hown (hw _ (List.mem_of_getElem? (i := 38) rfl)) (hw _ (List.mem_of_getElem? (i := 39) rfl)) (hw _ (List.mem_of_getElem? (i := 40) rfl)) (hw _ (List.mem_of_getElem? (i := 41) rfl)) (by decide) 0 e12 (rm9_3 l Z a0 hw sa d kd0 (fun i => own_by (own_p3 ((x1 &&& (255 : Int32)).toUInt32.toUInt16.toUInt32.toInt32) ((x2 &&& (255 : Int32)).toUInt32.toUInt16.toUInt32.toInt32) ((x3 &&& (255 : Int32)).toUInt32.toUInt16.toUInt32.toInt32) i)) fm hfm cs T7.heap n0 Zs Od E_sa F_sa_value F_sa_coder A_d Sfm Scs hcs) (by decide) (by decide) (by decide) (by decide) (g := (mkF m 107 #[.val (.int x1), .val (.int x2), .val (.int x3), .val (.int x4), .val (.int x5), .val (.int x6), .val (.int (3 : Int32)), .val (.int ((x1 &&& (255 : Int32)).toUInt32.toUInt16.toUInt32.toInt32)), .val (.int ((x2 &&& (255 : Int32)).toUInt32.toUInt16.toUInt32.toInt32)), .val (.int ((x3 &&& (255 : Int32)).toUInt32.toUInt16.toUInt32.toInt32)), .val (.int ((x4 &&& (255 : Int32)).toUInt32.toUInt16.toUInt32.toInt32)), .val (.int ((x5 &&& (255 : Int32)).toUInt32.toUInt16.toUInt32.toInt32)), .val (.ref sa), .val (.int (1 : Int32))] [(.ref sa)])) rfl (by rw [hml]; rfl) (rest := []) (lenOf pd17 rfl) rfl (by show 2 * 0 + _ ≤ _; exact Nat.le_of_eq rfl) (hb hby at_107) ?_
          intro T14 v14 L14 X14 q14
          obtain ⟨rfl, Nq14, e14⟩ := q14
          have N14 := Fr.app N12 Nq14
          show GoW _ _ _ _ _ _ _ (T14.setTop (mkF m 110 #[.val (.int x1), .val (.int x2), .val (.int x3), .val (.int x4), .val (.int x5), .val (.int x6), .val (.int (3 : Int32)), .val (.int ((x1 &&& (255 : Int32)).toUInt32.toUInt16.toUInt32.toInt32)), .val (.int ((x2 &&& (255 : Int32)).toUInt32.toUInt16.toUInt32.toInt32)), .val (.int ((x3 &&& (255 : Int32)).toUInt32.toUInt16.toUInt32.toInt32)), .val (.int ((x4 &&& (255 : Int32)).toUInt32.toUInt16.toUInt32.toInt32)), .val (.int ((x5 &&& (255 : Int32)).toUInt32.toUInt16.toUInt32.toInt32)), .val (.ref sa), .val (.int (1 : Int32))] [(.int (own_cur (own_ch ((fun i => own_by (own_p3 ((x1 &&& (255 : Int32)).toUInt32.toUInt16.toUInt32.toInt32) ((x2 &&& (255 : Int32)).toUInt32.toUInt16.toUInt32.toInt32) ((x3 &&& (255 : Int32)).toUInt32.toUInt16.toUInt32.toInt32) i)) 0)) (own_ch ((fun i => own_by (own_p3 ((x1 &&& (255 : Int32)).toUInt32.toUInt16.toUInt32.toInt32) ((x2 &&& (255 : Int32)).toUInt32.toUInt16.toUInt32.toInt32) ((x3 &&& (255 : Int32)).toUInt32.toUInt16.toUInt32.toInt32) i)) 1)) (own_ch ((fun i => own_by (own_p3 ((x1 &&& (255 : Int32)).toUInt32.toUInt16.toUInt32.toInt32) ((x2 &&& (255 : Int32)).toUInt32.toUInt16.toUInt32.toInt32) ((x3 &&& (255 : Int32)).toUInt32.toUInt16.toUInt32.toInt32) i)) 2))))]))
          refine GoW.of (fun _ q => XS.iload X14.here hx rfl (hb hby at_110) rfl q) ?_
          show GoW _ _ _ _ _ _ _ (T14.setTop (mkF m 112 #[.val (.int x1), .val (.int x2), .val (.int x3), .val (.int x4), .val (.int x5), .val (.int x6), .val (.int (3 : Int32)), .val (.int ((x1 &&& (255 : Int32)).toUInt32.toUInt16.toUInt32.toInt32)), .val (.int ((x2 &&& (255 : Int32)).toUInt32.toUInt16.toUInt32.toInt32)), .val (.int ((x3 &&& (255 : Int32)).toUInt32.toUInt16.toUInt32.toInt32)), .val (.int ((x4 &&& (255 : Int32)).toUInt32.toUInt16.toUInt32.toInt32)), .val (.int ((x5 &&& (255 : Int32)).toUInt32.toUInt16.toUInt32.toInt32)), .val (.ref sa), .val (.int (1 : Int32))] [(.int (1 : Int32)), (.int (own_cur (own_ch ((fun i => own_by (own_p3 ((x1 &&& (255 : Int32)).toUInt32.toUInt16.toUInt32.toInt32) ((x2 &&& (255 : Int32)).toUInt32.toUInt16.toUInt32.toInt32) ((x3 &&& (255 : Int32)).toUInt32.toUInt16.toUInt32.toInt32) i)) 0)) (own_ch ((fun i => own_by (own_p3 ((x1 &&& (255 : Int32)).toUInt32.toUInt16.toUInt32.toInt32) ((x2 &&& (255 : Int32)).toUInt32.toUInt16.toUInt32.toInt32) ((x3 &&& (255 : Int32)).toUInt32.toUInt16.toUInt32.toInt32) i)) 1)) (own_ch ((fun i => own_by (own_p3 ((x1 &&& (255 : Int32)).toUInt32.toUInt16.toUInt32.toInt32) ((x2 &&& (255 : Int32)).toUInt32.toUInt16.toUInt32.toInt32) ((x3 &&& (255 : Int32)).toUInt32.toUInt16.toUInt32.toInt32) i)) 2))))]))
          refine GoW.of (fun _ q => XS.icmpNo X14.here hx rfl (hb hby at_112) rfl (teq (by show own_cur (own_ch (own_by (((x1 &&& (255 : Int32)).toUInt32.toUInt16.toUInt32.toInt32).toUInt32.toUInt16.toUInt32.toInt32))) (own_ch (own_by (((x2 &&& (255 : Int32)).toUInt32.toUInt16.toUInt32.toInt32).toUInt32.toUInt16.toUInt32.toInt32))) (own_ch (own_by (((x3 &&& (255 : Int32)).toUInt32.toUInt16.toUInt32.toInt32).toUInt32.toUInt16.toUInt32.toInt32))) = _; rw [own_chk, own_chk, own_chk, own_cur_eq, if_neg c79, if_neg c87, if_neg c95])).2 q) ?_
          show GoW _ _ _ _ _ _ _ (T14.setTop (mkF m 115 #[.val (.int x1), .val (.int x2), .val (.int x3), .val (.int x4), .val (.int x5), .val (.int x6), .val (.int (3 : Int32)), .val (.int ((x1 &&& (255 : Int32)).toUInt32.toUInt16.toUInt32.toInt32)), .val (.int ((x2 &&& (255 : Int32)).toUInt32.toUInt16.toUInt32.toInt32)), .val (.int ((x3 &&& (255 : Int32)).toUInt32.toUInt16.toUInt32.toInt32)), .val (.int ((x4 &&& (255 : Int32)).toUInt32.toUInt16.toUInt32.toInt32)), .val (.int ((x5 &&& (255 : Int32)).toUInt32.toUInt16.toUInt32.toInt32)), .val (.ref sa), .val (.int (1 : Int32))] []))
          refine GoW.of (fun _ q => XS.iconst X14.here hx rfl (hb hby at_115) q) ?_
          show GoW _ _ _ _ _ _ _ (T14.setTop (mkF m 116 #[.val (.int x1), .val (.int x2), .val (.int x3), .val (.int x4), .val (.int x5), .val (.int x6), .val (.int (3 : Int32)), .val (.int ((x1 &&& (255 : Int32)).toUInt32.toUInt16.toUInt32.toInt32)), .val (.int ((x2 &&& (255 : Int32)).toUInt32.toUInt16.toUInt32.toInt32)), .val (.int ((x3 &&& (255 : Int32)).toUInt32.toUInt16.toUInt32.toInt32)), .val (.int ((x4 &&& (255 : Int32)).toUInt32.toUInt16.toUInt32.toInt32)), .val (.int ((x5 &&& (255 : Int32)).toUInt32.toUInt16.toUInt32.toInt32)), .val (.ref sa), .val (.int (1 : Int32))] [(.int (1 : Int32))]))
          refine GoW.of (fun _ q => XS.goto X14.here hx rfl (pc0 := 116) (pc' := 120) rfl (hb hby at_116) (by decide) (by decide) q) ?_
          show GoW _ _ _ _ _ _ _ (T14.setTop (mkF m 120 #[.val (.int x1), .val (.int x2), .val (.int x3), .val (.int x4), .val (.int x5), .val (.int x6), .val (.int (3 : Int32)), .val (.int ((x1 &&& (255 : Int32)).toUInt32.toUInt16.toUInt32.toInt32)), .val (.int ((x2 &&& (255 : Int32)).toUInt32.toUInt16.toUInt32.toInt32)), .val (.int ((x3 &&& (255 : Int32)).toUInt32.toUInt16.toUInt32.toInt32)), .val (.int ((x4 &&& (255 : Int32)).toUInt32.toUInt16.toUInt32.toInt32)), .val (.int ((x5 &&& (255 : Int32)).toUInt32.toUInt16.toUInt32.toInt32)), .val (.ref sa), .val (.int (1 : Int32))] [(.int (1 : Int32))]))
          refine GoW.retN X14 hS (by rw [e14]; exact hk) hx hlk (t := .boolean) hret (by simp) (hb hby at_120) rfl (by decide) (by decide) ?_
          rw [e14]
          exact ⟨rfl, N14⟩
  · rw [q6]
    show GoW _ _ _ _ _ _ _ (s₁.setTop (mkF m 10 #[.val (.int x1), .val (.int x2), .val (.int x3), .val (.int x4), .val (.int x5), .val (.int x6), .val (.int (4 : Int32)), .unset, .unset, .unset, .unset, .unset, .unset, .unset] []))
    refine GoW.of (fun _ q => XS.iloadN X0.here hx rfl (hb hby at_10) rfl q) ?_
    show GoW _ _ _ _ _ _ _ (s₁.setTop (mkF m 11 #[.val (.int x1), .val (.int x2), .val (.int x3), .val (.int x4), .val (.int x5), .val (.int x6), .val (.int (4 : Int32)), .unset, .unset, .unset, .unset, .unset, .unset, .unset] [(.int x1)]))
    refine GoW.of (fun _ q => XS.sipush X0.here hx rfl (hb hby at_11) q) ?_
    show GoW _ _ _ _ _ _ _ (s₁.setTop (mkF m 14 #[.val (.int x1), .val (.int x2), .val (.int x3), .val (.int x4), .val (.int x5), .val (.int x6), .val (.int (4 : Int32)), .unset, .unset, .unset, .unset, .unset, .unset, .unset] [(.int (255 : Int32)), (.int x1)]))
    refine GoW.of (fun _ q => XS.iand X0.here hx rfl (hb hby at_14) rfl q) ?_
    show GoW _ _ _ _ _ _ _ (s₁.setTop (mkF m 15 #[.val (.int x1), .val (.int x2), .val (.int x3), .val (.int x4), .val (.int x5), .val (.int x6), .val (.int (4 : Int32)), .unset, .unset, .unset, .unset, .unset, .unset, .unset] [(.int (x1 &&& (255 : Int32)))]))
    refine GoW.of (fun _ q => XS.i2c X0.here hx rfl (hb hby at_15) rfl q) ?_
    show GoW _ _ _ _ _ _ _ (s₁.setTop (mkF m 16 #[.val (.int x1), .val (.int x2), .val (.int x3), .val (.int x4), .val (.int x5), .val (.int x6), .val (.int (4 : Int32)), .unset, .unset, .unset, .unset, .unset, .unset, .unset] [(.int ((x1 &&& (255 : Int32)).toUInt32.toUInt16.toUInt32.toInt32))]))
    refine GoW.of (fun _ q => XS.istore X0.here hx rfl (hb hby at_16) rfl (l' := #[.val (.int x1), .val (.int x2), .val (.int x3), .val (.int x4), .val (.int x5), .val (.int x6), .val (.int (4 : Int32)), .val (.int ((x1 &&& (255 : Int32)).toUInt32.toUInt16.toUInt32.toInt32)), .unset, .unset, .unset, .unset, .unset, .unset]) rfl q) ?_
    show GoW _ _ _ _ _ _ _ (s₁.setTop (mkF m 18 #[.val (.int x1), .val (.int x2), .val (.int x3), .val (.int x4), .val (.int x5), .val (.int x6), .val (.int (4 : Int32)), .val (.int ((x1 &&& (255 : Int32)).toUInt32.toUInt16.toUInt32.toInt32)), .unset, .unset, .unset, .unset, .unset, .unset] []))
    refine GoW.of (fun _ q => XS.iloadN X0.here hx rfl (hb hby at_18) rfl q) ?_
    show GoW _ _ _ _ _ _ _ (s₁.setTop (mkF m 19 #[.val (.int x1), .val (.int x2), .val (.int x3), .val (.int x4), .val (.int x5), .val (.int x6), .val (.int (4 : Int32)), .val (.int ((x1 &&& (255 : Int32)).toUInt32.toUInt16.toUInt32.toInt32)), .unset, .unset, .unset, .unset, .unset, .unset] [(.int x2)]))
    refine GoW.of (fun _ q => XS.sipush X0.here hx rfl (hb hby at_19) q) ?_
    show GoW _ _ _ _ _ _ _ (s₁.setTop (mkF m 22 #[.val (.int x1), .val (.int x2), .val (.int x3), .val (.int x4), .val (.int x5), .val (.int x6), .val (.int (4 : Int32)), .val (.int ((x1 &&& (255 : Int32)).toUInt32.toUInt16.toUInt32.toInt32)), .unset, .unset, .unset, .unset, .unset, .unset] [(.int (255 : Int32)), (.int x2)]))
    refine GoW.of (fun _ q => XS.iand X0.here hx rfl (hb hby at_22) rfl q) ?_
    show GoW _ _ _ _ _ _ _ (s₁.setTop (mkF m 23 #[.val (.int x1), .val (.int x2), .val (.int x3), .val (.int x4), .val (.int x5), .val (.int x6), .val (.int (4 : Int32)), .val (.int ((x1 &&& (255 : Int32)).toUInt32.toUInt16.toUInt32.toInt32)), .unset, .unset, .unset, .unset, .unset, .unset] [(.int (x2 &&& (255 : Int32)))]))
    refine GoW.of (fun _ q => XS.i2c X0.here hx rfl (hb hby at_23) rfl q) ?_
    show GoW _ _ _ _ _ _ _ (s₁.setTop (mkF m 24 #[.val (.int x1), .val (.int x2), .val (.int x3), .val (.int x4), .val (.int x5), .val (.int x6), .val (.int (4 : Int32)), .val (.int ((x1 &&& (255 : Int32)).toUInt32.toUInt16.toUInt32.toInt32)), .unset, .unset, .unset, .unset, .unset, .unset] [(.int ((x2 &&& (255 : Int32)).toUInt32.toUInt16.toUInt32.toInt32))]))
    refine GoW.of (fun _ q => XS.istore X0.here hx rfl (hb hby at_24) rfl (l' := #[.val (.int x1), .val (.int x2), .val (.int x3), .val (.int x4), .val (.int x5), .val (.int x6), .val (.int (4 : Int32)), .val (.int ((x1 &&& (255 : Int32)).toUInt32.toUInt16.toUInt32.toInt32)), .val (.int ((x2 &&& (255 : Int32)).toUInt32.toUInt16.toUInt32.toInt32)), .unset, .unset, .unset, .unset, .unset]) rfl q) ?_
    show GoW _ _ _ _ _ _ _ (s₁.setTop (mkF m 26 #[.val (.int x1), .val (.int x2), .val (.int x3), .val (.int x4), .val (.int x5), .val (.int x6), .val (.int (4 : Int32)), .val (.int ((x1 &&& (255 : Int32)).toUInt32.toUInt16.toUInt32.toInt32)), .val (.int ((x2 &&& (255 : Int32)).toUInt32.toUInt16.toUInt32.toInt32)), .unset, .unset, .unset, .unset, .unset] []))
    refine GoW.of (fun _ q => XS.iloadN X0.here hx rfl (hb hby at_26) rfl q) ?_
    show GoW _ _ _ _ _ _ _ (s₁.setTop (mkF m 27 #[.val (.int x1), .val (.int x2), .val (.int x3), .val (.int x4), .val (.int x5), .val (.int x6), .val (.int (4 : Int32)), .val (.int ((x1 &&& (255 : Int32)).toUInt32.toUInt16.toUInt32.toInt32)), .val (.int ((x2 &&& (255 : Int32)).toUInt32.toUInt16.toUInt32.toInt32)), .unset, .unset, .unset, .unset, .unset] [(.int x3)]))
    refine GoW.of (fun _ q => XS.sipush X0.here hx rfl (hb hby at_27) q) ?_
    show GoW _ _ _ _ _ _ _ (s₁.setTop (mkF m 30 #[.val (.int x1), .val (.int x2), .val (.int x3), .val (.int x4), .val (.int x5), .val (.int x6), .val (.int (4 : Int32)), .val (.int ((x1 &&& (255 : Int32)).toUInt32.toUInt16.toUInt32.toInt32)), .val (.int ((x2 &&& (255 : Int32)).toUInt32.toUInt16.toUInt32.toInt32)), .unset, .unset, .unset, .unset, .unset] [(.int (255 : Int32)), (.int x3)]))
    refine GoW.of (fun _ q => XS.iand X0.here hx rfl (hb hby at_30) rfl q) ?_
    show GoW _ _ _ _ _ _ _ (s₁.setTop (mkF m 31 #[.val (.int x1), .val (.int x2), .val (.int x3), .val (.int x4), .val (.int x5), .val (.int x6), .val (.int (4 : Int32)), .val (.int ((x1 &&& (255 : Int32)).toUInt32.toUInt16.toUInt32.toInt32)), .val (.int ((x2 &&& (255 : Int32)).toUInt32.toUInt16.toUInt32.toInt32)), .unset, .unset, .unset, .unset, .unset] [(.int (x3 &&& (255 : Int32)))]))
    refine GoW.of (fun _ q => XS.i2c X0.here hx rfl (hb hby at_31) rfl q) ?_
    show GoW _ _ _ _ _ _ _ (s₁.setTop (mkF m 32 #[.val (.int x1), .val (.int x2), .val (.int x3), .val (.int x4), .val (.int x5), .val (.int x6), .val (.int (4 : Int32)), .val (.int ((x1 &&& (255 : Int32)).toUInt32.toUInt16.toUInt32.toInt32)), .val (.int ((x2 &&& (255 : Int32)).toUInt32.toUInt16.toUInt32.toInt32)), .unset, .unset, .unset, .unset, .unset] [(.int ((x3 &&& (255 : Int32)).toUInt32.toUInt16.toUInt32.toInt32))]))
    refine GoW.of (fun _ q => XS.istore X0.here hx rfl (hb hby at_32) rfl (l' := #[.val (.int x1), .val (.int x2), .val (.int x3), .val (.int x4), .val (.int x5), .val (.int x6), .val (.int (4 : Int32)), .val (.int ((x1 &&& (255 : Int32)).toUInt32.toUInt16.toUInt32.toInt32)), .val (.int ((x2 &&& (255 : Int32)).toUInt32.toUInt16.toUInt32.toInt32)), .val (.int ((x3 &&& (255 : Int32)).toUInt32.toUInt16.toUInt32.toInt32)), .unset, .unset, .unset, .unset]) rfl q) ?_
    show GoW _ _ _ _ _ _ _ (s₁.setTop (mkF m 34 #[.val (.int x1), .val (.int x2), .val (.int x3), .val (.int x4), .val (.int x5), .val (.int x6), .val (.int (4 : Int32)), .val (.int ((x1 &&& (255 : Int32)).toUInt32.toUInt16.toUInt32.toInt32)), .val (.int ((x2 &&& (255 : Int32)).toUInt32.toUInt16.toUInt32.toInt32)), .val (.int ((x3 &&& (255 : Int32)).toUInt32.toUInt16.toUInt32.toInt32)), .unset, .unset, .unset, .unset] []))
    refine GoW.of (fun _ q => XS.iloadN X0.here hx rfl (hb hby at_34) rfl q) ?_
    show GoW _ _ _ _ _ _ _ (s₁.setTop (mkF m 35 #[.val (.int x1), .val (.int x2), .val (.int x3), .val (.int x4), .val (.int x5), .val (.int x6), .val (.int (4 : Int32)), .val (.int ((x1 &&& (255 : Int32)).toUInt32.toUInt16.toUInt32.toInt32)), .val (.int ((x2 &&& (255 : Int32)).toUInt32.toUInt16.toUInt32.toInt32)), .val (.int ((x3 &&& (255 : Int32)).toUInt32.toUInt16.toUInt32.toInt32)), .unset, .unset, .unset, .unset] [(.int x4)]))
    refine GoW.of (fun _ q => XS.sipush X0.here hx rfl (hb hby at_35) q) ?_
    show GoW _ _ _ _ _ _ _ (s₁.setTop (mkF m 38 #[.val (.int x1), .val (.int x2), .val (.int x3), .val (.int x4), .val (.int x5), .val (.int x6), .val (.int (4 : Int32)), .val (.int ((x1 &&& (255 : Int32)).toUInt32.toUInt16.toUInt32.toInt32)), .val (.int ((x2 &&& (255 : Int32)).toUInt32.toUInt16.toUInt32.toInt32)), .val (.int ((x3 &&& (255 : Int32)).toUInt32.toUInt16.toUInt32.toInt32)), .unset, .unset, .unset, .unset] [(.int (255 : Int32)), (.int x4)]))
    refine GoW.of (fun _ q => XS.iand X0.here hx rfl (hb hby at_38) rfl q) ?_
    show GoW _ _ _ _ _ _ _ (s₁.setTop (mkF m 39 #[.val (.int x1), .val (.int x2), .val (.int x3), .val (.int x4), .val (.int x5), .val (.int x6), .val (.int (4 : Int32)), .val (.int ((x1 &&& (255 : Int32)).toUInt32.toUInt16.toUInt32.toInt32)), .val (.int ((x2 &&& (255 : Int32)).toUInt32.toUInt16.toUInt32.toInt32)), .val (.int ((x3 &&& (255 : Int32)).toUInt32.toUInt16.toUInt32.toInt32)), .unset, .unset, .unset, .unset] [(.int (x4 &&& (255 : Int32)))]))
    refine GoW.of (fun _ q => XS.i2c X0.here hx rfl (hb hby at_39) rfl q) ?_
    show GoW _ _ _ _ _ _ _ (s₁.setTop (mkF m 40 #[.val (.int x1), .val (.int x2), .val (.int x3), .val (.int x4), .val (.int x5), .val (.int x6), .val (.int (4 : Int32)), .val (.int ((x1 &&& (255 : Int32)).toUInt32.toUInt16.toUInt32.toInt32)), .val (.int ((x2 &&& (255 : Int32)).toUInt32.toUInt16.toUInt32.toInt32)), .val (.int ((x3 &&& (255 : Int32)).toUInt32.toUInt16.toUInt32.toInt32)), .unset, .unset, .unset, .unset] [(.int ((x4 &&& (255 : Int32)).toUInt32.toUInt16.toUInt32.toInt32))]))
    refine GoW.of (fun _ q => XS.istore X0.here hx rfl (hb hby at_40) rfl (l' := #[.val (.int x1), .val (.int x2), .val (.int x3), .val (.int x4), .val (.int x5), .val (.int x6), .val (.int (4 : Int32)), .val (.int ((x1 &&& (255 : Int32)).toUInt32.toUInt16.toUInt32.toInt32)), .val (.int ((x2 &&& (255 : Int32)).toUInt32.toUInt16.toUInt32.toInt32)), .val (.int ((x3 &&& (255 : Int32)).toUInt32.toUInt16.toUInt32.toInt32)), .val (.int ((x4 &&& (255 : Int32)).toUInt32.toUInt16.toUInt32.toInt32)), .unset, .unset, .unset]) rfl q) ?_
    show GoW _ _ _ _ _ _ _ (s₁.setTop (mkF m 42 #[.val (.int x1), .val (.int x2), .val (.int x3), .val (.int x4), .val (.int x5), .val (.int x6), .val (.int (4 : Int32)), .val (.int ((x1 &&& (255 : Int32)).toUInt32.toUInt16.toUInt32.toInt32)), .val (.int ((x2 &&& (255 : Int32)).toUInt32.toUInt16.toUInt32.toInt32)), .val (.int ((x3 &&& (255 : Int32)).toUInt32.toUInt16.toUInt32.toInt32)), .val (.int ((x4 &&& (255 : Int32)).toUInt32.toUInt16.toUInt32.toInt32)), .unset, .unset, .unset] []))
    refine GoW.of (fun _ q => XS.iload X0.here hx rfl (hb hby at_42) rfl q) ?_
    show GoW _ _ _ _ _ _ _ (s₁.setTop (mkF m 44 #[.val (.int x1), .val (.int x2), .val (.int x3), .val (.int x4), .val (.int x5), .val (.int x6), .val (.int (4 : Int32)), .val (.int ((x1 &&& (255 : Int32)).toUInt32.toUInt16.toUInt32.toInt32)), .val (.int ((x2 &&& (255 : Int32)).toUInt32.toUInt16.toUInt32.toInt32)), .val (.int ((x3 &&& (255 : Int32)).toUInt32.toUInt16.toUInt32.toInt32)), .val (.int ((x4 &&& (255 : Int32)).toUInt32.toUInt16.toUInt32.toInt32)), .unset, .unset, .unset] [(.int x5)]))
    refine GoW.of (fun _ q => XS.sipush X0.here hx rfl (hb hby at_44) q) ?_
    show GoW _ _ _ _ _ _ _ (s₁.setTop (mkF m 47 #[.val (.int x1), .val (.int x2), .val (.int x3), .val (.int x4), .val (.int x5), .val (.int x6), .val (.int (4 : Int32)), .val (.int ((x1 &&& (255 : Int32)).toUInt32.toUInt16.toUInt32.toInt32)), .val (.int ((x2 &&& (255 : Int32)).toUInt32.toUInt16.toUInt32.toInt32)), .val (.int ((x3 &&& (255 : Int32)).toUInt32.toUInt16.toUInt32.toInt32)), .val (.int ((x4 &&& (255 : Int32)).toUInt32.toUInt16.toUInt32.toInt32)), .unset, .unset, .unset] [(.int (255 : Int32)), (.int x5)]))
    refine GoW.of (fun _ q => XS.iand X0.here hx rfl (hb hby at_47) rfl q) ?_
    show GoW _ _ _ _ _ _ _ (s₁.setTop (mkF m 48 #[.val (.int x1), .val (.int x2), .val (.int x3), .val (.int x4), .val (.int x5), .val (.int x6), .val (.int (4 : Int32)), .val (.int ((x1 &&& (255 : Int32)).toUInt32.toUInt16.toUInt32.toInt32)), .val (.int ((x2 &&& (255 : Int32)).toUInt32.toUInt16.toUInt32.toInt32)), .val (.int ((x3 &&& (255 : Int32)).toUInt32.toUInt16.toUInt32.toInt32)), .val (.int ((x4 &&& (255 : Int32)).toUInt32.toUInt16.toUInt32.toInt32)), .unset, .unset, .unset] [(.int (x5 &&& (255 : Int32)))]))
    refine GoW.of (fun _ q => XS.i2c X0.here hx rfl (hb hby at_48) rfl q) ?_
    show GoW _ _ _ _ _ _ _ (s₁.setTop (mkF m 49 #[.val (.int x1), .val (.int x2), .val (.int x3), .val (.int x4), .val (.int x5), .val (.int x6), .val (.int (4 : Int32)), .val (.int ((x1 &&& (255 : Int32)).toUInt32.toUInt16.toUInt32.toInt32)), .val (.int ((x2 &&& (255 : Int32)).toUInt32.toUInt16.toUInt32.toInt32)), .val (.int ((x3 &&& (255 : Int32)).toUInt32.toUInt16.toUInt32.toInt32)), .val (.int ((x4 &&& (255 : Int32)).toUInt32.toUInt16.toUInt32.toInt32)), .unset, .unset, .unset] [(.int ((x5 &&& (255 : Int32)).toUInt32.toUInt16.toUInt32.toInt32))]))
    refine GoW.of (fun _ q => XS.istore X0.here hx rfl (hb hby at_49) rfl (l' := #[.val (.int x1), .val (.int x2), .val (.int x3), .val (.int x4), .val (.int x5), .val (.int x6), .val (.int (4 : Int32)), .val (.int ((x1 &&& (255 : Int32)).toUInt32.toUInt16.toUInt32.toInt32)), .val (.int ((x2 &&& (255 : Int32)).toUInt32.toUInt16.toUInt32.toInt32)), .val (.int ((x3 &&& (255 : Int32)).toUInt32.toUInt16.toUInt32.toInt32)), .val (.int ((x4 &&& (255 : Int32)).toUInt32.toUInt16.toUInt32.toInt32)), .val (.int ((x5 &&& (255 : Int32)).toUInt32.toUInt16.toUInt32.toInt32)), .unset, .unset]) rfl q) ?_
    show GoW _ _ _ _ _ _ _ (s₁.setTop (mkF m 51 #[.val (.int x1), .val (.int x2), .val (.int x3), .val (.int x4), .val (.int x5), .val (.int x6), .val (.int (4 : Int32)), .val (.int ((x1 &&& (255 : Int32)).toUInt32.toUInt16.toUInt32.toInt32)), .val (.int ((x2 &&& (255 : Int32)).toUInt32.toUInt16.toUInt32.toInt32)), .val (.int ((x3 &&& (255 : Int32)).toUInt32.toUInt16.toUInt32.toInt32)), .val (.int ((x4 &&& (255 : Int32)).toUInt32.toUInt16.toUInt32.toInt32)), .val (.int ((x5 &&& (255 : Int32)).toUInt32.toUInt16.toUInt32.toInt32)), .unset, .unset] []))
    refine GoW.of (fun _ q => XS.iload X0.here hx rfl (hb hby at_51) rfl q) ?_
    show GoW _ _ _ _ _ _ _ (s₁.setTop (mkF m 53 #[.val (.int x1), .val (.int x2), .val (.int x3), .val (.int x4), .val (.int x5), .val (.int x6), .val (.int (4 : Int32)), .val (.int ((x1 &&& (255 : Int32)).toUInt32.toUInt16.toUInt32.toInt32)), .val (.int ((x2 &&& (255 : Int32)).toUInt32.toUInt16.toUInt32.toInt32)), .val (.int ((x3 &&& (255 : Int32)).toUInt32.toUInt16.toUInt32.toInt32)), .val (.int ((x4 &&& (255 : Int32)).toUInt32.toUInt16.toUInt32.toInt32)), .val (.int ((x5 &&& (255 : Int32)).toUInt32.toUInt16.toUInt32.toInt32)), .unset, .unset] [(.int (4 : Int32))]))
    refine GoW.of (fun _ q => XS.iload X0.here hx rfl (hb hby at_53) rfl q) ?_
    show GoW _ _ _ _ _ _ _ (s₁.setTop (mkF m 55 #[.val (.int x1), .val (.int x2), .val (.int x3), .val (.int x4), .val (.int x5), .val (.int x6), .val (.int (4 : Int32)), .val (.int ((x1 &&& (255 : Int32)).toUInt32.toUInt16.toUInt32.toInt32)), .val (.int ((x2 &&& (255 : Int32)).toUInt32.toUInt16.toUInt32.toInt32)), .val (.int ((x3 &&& (255 : Int32)).toUInt32.toUInt16.toUInt32.toInt32)), .val (.int ((x4 &&& (255 : Int32)).toUInt32.toUInt16.toUInt32.toInt32)), .val (.int ((x5 &&& (255 : Int32)).toUInt32.toUInt16.toUInt32.toInt32)), .unset, .unset] [(.int ((x1 &&& (255 : Int32)).toUInt32.toUInt16.toUInt32.toInt32)), (.int (4 : Int32))]))
    refine GoW.of (fun _ q => XS.iload X0.here hx rfl (hb hby at_55) rfl q) ?_
    show GoW _ _ _ _ _ _ _ (s₁.setTop (mkF m 57 #[.val (.int x1), .val (.int x2), .val (.int x3), .val (.int x4), .val (.int x5), .val (.int x6), .val (.int (4 : Int32)), .val (.int ((x1 &&& (255 : Int32)).toUInt32.toUInt16.toUInt32.toInt32)), .val (.int ((x2 &&& (255 : Int32)).toUInt32.toUInt16.toUInt32.toInt32)), .val (.int ((x3 &&& (255 : Int32)).toUInt32.toUInt16.toUInt32.toInt32)), .val (.int ((x4 &&& (255 : Int32)).toUInt32.toUInt16.toUInt32.toInt32)), .val (.int ((x5 &&& (255 : Int32)).toUInt32.toUInt16.toUInt32.toInt32)), .unset, .unset] [(.int ((x2 &&& (255 : Int32)).toUInt32.toUInt16.toUInt32.toInt32)), (.int ((x1 &&& (255 : Int32)).toUInt32.toUInt16.toUInt32.toInt32)), (.int (4 : Int32))]))
    refine GoW.of (fun _ q => XS.iload X0.here hx rfl (hb hby at_57) rfl q) ?_
    show GoW _ _ _ _ _ _ _ (s₁.setTop (mkF m 59 #[.val (.int x1), .val (.int x2), .val (.int x3), .val (.int x4), .val (.int x5), .val (.int x6), .val (.int (4 : Int32)), .val (.int ((x1 &&& (255 : Int32)).toUInt32.toUInt16.toUInt32.toInt32)), .val (.int ((x2 &&& (255 : Int32)).toUInt32.toUInt16.toUInt32.toInt32)), .val (.int ((x3 &&& (255 : Int32)).toUInt32.toUInt16.toUInt32.toInt32)), .val (.int ((x4 &&& (255 : Int32)).toUInt32.toUInt16.toUInt32.toInt32)), .val (.int ((x5 &&& (255 : Int32)).toUInt32.toUInt16.toUInt32.toInt32)), .unset, .unset] [(.int ((x3 &&& (255 : Int32)).toUInt32.toUInt16.toUInt32.toInt32)), (.int ((x2 &&& (255 : Int32)).toUInt32.toUInt16.toUInt32.toInt32)), (.int ((x1 &&& (255 : Int32)).toUInt32.toUInt16.toUInt32.toInt32)), (.int (4 : Int32))]))
    refine GoW.of (fun _ q => XS.iload X0.here hx rfl (hb hby at_59) rfl q) ?_
    show GoW _ _ _ _ _ _ _ (s₁.setTop (mkF m 61 #[.val (.int x1), .val (.int x2), .val (.int x3), .val (.int x4), .val (.int x5), .val (.int x6), .val (.int (4 : Int32)), .val (.int ((x1 &&& (255 : Int32)).toUInt32.toUInt16.toUInt32.toInt32)), .val (.int ((x2 &&& (255 : Int32)).toUInt32.toUInt16.toUInt32.toInt32)), .val (.int ((x3 &&& (255 : Int32)).toUInt32.toUInt16.toUInt32.toInt32)), .val (.int ((x4 &&& (255 : Int32)).toUInt32.toUInt16.toUInt32.toInt32)), .val (.int ((x5 &&& (255 : Int32)).toUInt32.toUInt16.toUInt32.toInt32)), .unset, .unset] [(.int ((x4 &&& (255 : Int32)).toUInt32.toUInt16.toUInt32.toInt32)), (.int ((x3 &&& (255 : Int32)).toUInt32.toUInt16.toUInt32.toInt32)), (.int ((x2 &&& (255 : Int32)).toUInt32.toUInt16.toUInt32.toInt32)), (.int ((x1 &&& (255 : Int32)).toUInt32.toUInt16.toUInt32.toInt32)), (.int (4 : Int32))]))
    refine GoW.of (fun _ q => XS.iload X0.here hx rfl (hb hby at_61) rfl q) ?_
    show GoW _ _ _ _ _ _ _ (s₁.setTop (mkF m 63 #[.val (.int x1), .val (.int x2), .val (.int x3), .val (.int x4), .val (.int x5), .val (.int x6), .val (.int (4 : Int32)), .val (.int ((x1 &&& (255 : Int32)).toUInt32.toUInt16.toUInt32.toInt32)), .val (.int ((x2 &&& (255 : Int32)).toUInt32.toUInt16.toUInt32.toInt32)), .val (.int ((x3 &&& (255 : Int32)).toUInt32.toUInt16.toUInt32.toInt32)), .val (.int ((x4 &&& (255 : Int32)).toUInt32.toUInt16.toUInt32.toInt32)), .val (.int ((x5 &&& (255 : Int32)).toUInt32.toUInt16.toUInt32.toInt32)), .unset, .unset] [(.int ((x5 &&& (255 : Int32)).toUInt32.toUInt16.toUInt32.toInt32)), (.int ((x4 &&& (255 : Int32)).toUInt32.toUInt16.toUInt32.toInt32)), (.int ((x3 &&& (255 : Int32)).toUInt32.toUInt16.toUInt32.toInt32)), (.int ((x2 &&& (255 : Int32)).toUInt32.toUInt16.toUInt32.toInt32)), (.int ((x1 &&& (255 : Int32)).toUInt32.toUInt16.toUInt32.toInt32)), (.int (4 : Int32))]))
    refine callStatic GoW.of X0 hx hZ (y := (⟨"com/example/ddos_fee_ledger/ddosfeeledger/MoneyIsCurrencyPinLaw", "make", "(ICCCCC)Ljava/lang/String;"⟩ : MethodName)) (argsL := [(.int (4 : Int32)), (.int ((x1 &&& (255 : Int32)).toUInt32.toUInt16.toUInt32.toInt32)), (.int ((x2 &&& (255 : Int32)).toUInt32.toUInt16.toUInt32.toInt32)), (.int ((x3 &&& (255 : Int32)).toUInt32.toUInt16.toUInt32.toInt32)), (.int ((x4 &&& (255 : Int32)).toUInt32.toUInt16.toUInt32.toInt32)), (.int ((x5 &&& (255 : Int32)).toUInt32.toUInt16.toUInt32.toInt32))]) hown (hw _ (List.mem_of_getElem? (i := 1) rfl)) (hw _ (List.mem_of_getElem? (i := 2) rfl)) (hw _ (List.mem_of_getElem? (i := 3) rfl)) (hw _ (List.mem_of_getElem? (i := 4) rfl)) (by decide) 0 e0 (rm1_4 l Z a0 hw ((x1 &&& (255 : Int32)).toUInt32.toUInt16.toUInt32.toInt32) ((x2 &&& (255 : Int32)).toUInt32.toUInt16.toUInt32.toInt32) ((x3 &&& (255 : Int32)).toUInt32.toUInt16.toUInt32.toInt32) ((x4 &&& (255 : Int32)).toUInt32.toUInt16.toUInt32.toInt32) ((x5 &&& (255 : Int32)).toUInt32.toUInt16.toUInt32.toInt32) cs h0 n0 Zs Od (own_chr2 _) (own_chr2 _) (own_chr2 _) (own_chr2 _) Scs hcs) (by decide) (by decide) (by decide) (by decide) (g := (mkF m 63 #[.val (.int x1), .val (.int x2), .val (.int x3), .val (.int x4), .val (.int x5), .val (.int x6), .val (.int (4 : Int32)), .val (.int ((x1 &&& (255 : Int32)).toUInt32.toUInt16.toUInt32.toInt32)), .val (.int ((x2 &&& (255 : Int32)).toUInt32.toUInt16.toUInt32.toInt32)), .val (.int ((x3 &&& (255 : Int32)).toUInt32.toUInt16.toUInt32.toInt32)), .val (.int ((x4 &&& (255 : Int32)).toUInt32.toUInt16.toUInt32.toInt32)), .val (.int ((x5 &&& (255 : Int32)).toUInt32.toUInt16.toUInt32.toInt32)), .unset, .unset] [(.int ((x5 &&& (255 : Int32)).toUInt32.toUInt16.toUInt32.toInt32)), (.int ((x4 &&& (255 : Int32)).toUInt32.toUInt16.toUInt32.toInt32)), (.int ((x3 &&& (255 : Int32)).toUInt32.toUInt16.toUInt32.toInt32)), (.int ((x2 &&& (255 : Int32)).toUInt32.toUInt16.toUInt32.toInt32)), (.int ((x1 &&& (255 : Int32)).toUInt32.toUInt16.toUInt32.toInt32)), (.int (4 : Int32))])) rfl (by rw [hml]; rfl) (rest := []) (lenOf pd16 rfl) rfl (by show 2 * 0 + _ ≤ _; exact Nat.le_of_eq rfl) (hb hby at_63) ?_
    intro T15 v15 L15 X15 q15
    obtain ⟨sa, d, kd0, gd0, rfl, Nq15, K15, f15_0, f15_1, f15_2, f15_3, f15_4⟩ := q15
    have N15 := Fr.app N0 Nq15
    have g_sa : n0 ≤ sa := Nat.le_trans Zs f15_0
    have sz_sa : h0.size ≤ sa := Nat.le_trans Kp.1 f15_0
    have Zs := Nat.le_trans Zs K15.1
    have Kp := Kp.trans K15 all0
    have hk := Nat.le_trans hk K15.1
    have Od := Od.keep K15 all0
    have E_sa := f15_1
    have F_sa_value := f15_2
    have F_sa_coder := f15_3
    have A_d := f15_4
    show GoW _ _ _ _ _ _ _ (T15.setTop (mkF m 66 #[.val (.int x1), .val (.int x2), .val (.int x3), .val (.int x4), .val (.int x5), .val (.int x6), .val (.int (4 : Int32)), .val (.int ((x1 &&& (255 : Int32)).toUInt32.toUInt16.toUInt32.toInt32)), .val (.int ((x2 &&& (255 : Int32)).toUInt32.toUInt16.toUInt32.toInt32)), .val (.int ((x3 &&& (255 : Int32)).toUInt32.toUInt16.toUInt32.toInt32)), .val (.int ((x4 &&& (255 : Int32)).toUInt32.toUInt16.toUInt32.toInt32)), .val (.int ((x5 &&& (255 : Int32)).toUInt32.toUInt16.toUInt32.toInt32)), .unset, .unset] [(.ref sa)]))
    refine GoW.of (fun _ q => XS.astore X15.here hx rfl (hb hby at_66) rfl rfl (l' := #[.val (.int x1), .val (.int x2), .val (.int x3), .val (.int x4), .val (.int x5), .val (.int x6), .val (.int (4 : Int32)), .val (.int ((x1 &&& (255 : Int32)).toUInt32.toUInt16.toUInt32.toInt32)), .val (.int ((x2 &&& (255 : Int32)).toUInt32.toUInt16.toUInt32.toInt32)), .val (.int ((x3 &&& (255 : Int32)).toUInt32.toUInt16.toUInt32.toInt32)), .val (.int ((x4 &&& (255 : Int32)).toUInt32.toUInt16.toUInt32.toInt32)), .val (.int ((x5 &&& (255 : Int32)).toUInt32.toUInt16.toUInt32.toInt32)), .val (.ref sa), .unset]) rfl q) ?_
    show GoW _ _ _ _ _ _ _ (T15.setTop (mkF m 68 #[.val (.int x1), .val (.int x2), .val (.int x3), .val (.int x4), .val (.int x5), .val (.int x6), .val (.int (4 : Int32)), .val (.int ((x1 &&& (255 : Int32)).toUInt32.toUInt16.toUInt32.toInt32)), .val (.int ((x2 &&& (255 : Int32)).toUInt32.toUInt16.toUInt32.toInt32)), .val (.int ((x3 &&& (255 : Int32)).toUInt32.toUInt16.toUInt32.toInt32)), .val (.int ((x4 &&& (255 : Int32)).toUInt32.toUInt16.toUInt32.toInt32)), .val (.int ((x5 &&& (255 : Int32)).toUInt32.toUInt16.toUInt32.toInt32)), .val (.ref sa), .unset] []))
    refine GoW.of (fun _ q => XS.iload X15.here hx rfl (hb hby at_68) rfl q) ?_
    show GoW _ _ _ _ _ _ _ (T15.setTop (mkF m 70 #[.val (.int x1), .val (.int x2), .val (.int x3), .val (.int x4), .val (.int x5), .val (.int x6), .val (.int (4 : Int32)), .val (.int ((x1 &&& (255 : Int32)).toUInt32.toUInt16.toUInt32.toInt32)), .val (.int ((x2 &&& (255 : Int32)).toUInt32.toUInt16.toUInt32.toInt32)), .val (.int ((x3 &&& (255 : Int32)).toUInt32.toUInt16.toUInt32.toInt32)), .val (.int ((x4 &&& (255 : Int32)).toUInt32.toUInt16.toUInt32.toInt32)), .val (.int ((x5 &&& (255 : Int32)).toUInt32.toUInt16.toUInt32.toInt32)), .val (.ref sa), .unset] [(.int (4 : Int32))]))
    refine GoW.of (fun _ q => XS.iconst X15.here hx rfl (hb hby at_70) q) ?_
    show GoW _ _ _ _ _ _ _ (T15.setTop (mkF m 71 #[.val (.int x1), .val (.int x2), .val (.int x3), .val (.int x4), .val (.int x5), .val (.int x6), .val (.int (4 : Int32)), .val (.int ((x1 &&& (255 : Int32)).toUInt32.toUInt16.toUInt32.toInt32)), .val (.int ((x2 &&& (255 : Int32)).toUInt32.toUInt16.toUInt32.toInt32)), .val (.int ((x3 &&& (255 : Int32)).toUInt32.toUInt16.toUInt32.toInt32)), .val (.int ((x4 &&& (255 : Int32)).toUInt32.toUInt16.toUInt32.toInt32)), .val (.int ((x5 &&& (255 : Int32)).toUInt32.toUInt16.toUInt32.toInt32)), .val (.ref sa), .unset] [(.int (3 : Int32)), (.int (4 : Int32))]))
    refine GoW.of (fun _ q => XS.icmpYes X15.here hx rfl (pc0 := 71) (pc' := 102) rfl (hb hby at_71) rfl (feq (by decide)).2 (by decide) (by decide) q) ?_
    show GoW _ _ _ _ _ _ _ (T15.setTop (mkF m 102 #[.val (.int x1), .val (.int x2), .val (.int x3), .val (.int x4), .val (.int x5), .val (.int x6), .val (.int (4 : Int32)), .val (.int ((x1 &&& (255 : Int32)).toUInt32.toUInt16.toUInt32.toInt32)), .val (.int ((x2 &&& (255 : Int32)).toUInt32.toUInt16.toUInt32.toInt32)), .val (.int ((x3 &&& (255 : Int32)).toUInt32.toUInt16.toUInt32.toInt32)), .val (.int ((x4 &&& (255 : Int32)).toUInt32.toUInt16.toUInt32.toInt32)), .val (.int ((x5 &&& (255 : Int32)).toUInt32.toUInt16.toUInt32.toInt32)), .val (.ref sa), .unset] []))
    refine GoW.of (fun _ q => XS.iconst X15.here hx rfl (hb hby at_102) q) ?_
    show GoW _ _ _ _ _ _ _ (T15.setTop (mkF m 103 #[.val (.int x1), .val (.int x2), .val (.int x3), .val (.int x4), .val (.int x5), .val (.int x6), .val (.int (4 : Int32)), .val (.int ((x1 &&& (255 : Int32)).toUInt32.toUInt16.toUInt32.toInt32)), .val (.int ((x2 &&& (255 : Int32)).toUInt32.toUInt16.toUInt32.toInt32)), .val (.int ((x3 &&& (255 : Int32)).toUInt32.toUInt16.toUInt32.toInt32)), .val (.int ((x4 &&& (255 : Int32)).toUInt32.toUInt16.toUInt32.toInt32)), .val (.int ((x5 &&& (255 : Int32)).toUInt32.toUInt16.toUInt32.toInt32)), .val (.ref sa), .unset] [(.int (0 : Int32))]))
    refine GoW.of (fun _ q => XS.istore X15.here hx rfl (hb hby at_103) rfl (l' := #[.val (.int x1), .val (.int x2), .val (.int x3), .val (.int x4), .val (.int x5), .val (.int x6), .val (.int (4 : Int32)), .val (.int ((x1 &&& (255 : Int32)).toUInt32.toUInt16.toUInt32.toInt32)), .val (.int ((x2 &&& (255 : Int32)).toUInt32.toUInt16.toUInt32.toInt32)), .val (.int ((x3 &&& (255 : Int32)).toUInt32.toUInt16.toUInt32.toInt32)), .val (.int ((x4 &&& (255 : Int32)).toUInt32.toUInt16.toUInt32.toInt32)), .val (.int ((x5 &&& (255 : Int32)).toUInt32.toUInt16.toUInt32.toInt32)), .val (.ref sa), .val (.int (0 : Int32))]) rfl q) ?_
    show GoW _ _ _ _ _ _ _ (T15.setTop (mkF m 105 #[.val (.int x1), .val (.int x2), .val (.int x3), .val (.int x4), .val (.int x5), .val (.int x6), .val (.int (4 : Int32)), .val (.int ((x1 &&& (255 : Int32)).toUInt32.toUInt16.toUInt32.toInt32)), .val (.int ((x2 &&& (255 : Int32)).toUInt32.toUInt16.toUInt32.toInt32)), .val (.int ((x3 &&& (255 : Int32)).toUInt32.toUInt16.toUInt32.toInt32)), .val (.int ((x4 &&& (255 : Int32)).toUInt32.toUInt16.toUInt32.toInt32)), .val (.int ((x5 &&& (255 : Int32)).toUInt32.toUInt16.toUInt32.toInt32)), .val (.ref sa), .val (.int (0 : Int32))] []))
    refine GoW.of (fun _ q => XS.aload X15.here hx rfl (hb hby at_105) rfl rfl q) ?_
    show GoW _ _ _ _ _ _ _ (T15.setTop (mkF m 107 #[.val (.int x1), .val (.int x2), .val (.int x3), .val (.int x4), .val (.int x5), .val (.int x6), .val (.int (4 : Int32)), .val (.int ((x1 &&& (255 : Int32)).toUInt32.toUInt16.toUInt32.toInt32)), .val (.int ((x2 &&& (255 : Int32)).toUInt32.toUInt16.toUInt32.toInt32)), .val (.int ((x3 &&& (255 : Int32)).toUInt32.toUInt16.toUInt32.toInt32)), .val (.int ((x4 &&& (255 : Int32)).toUInt32.toUInt16.toUInt32.toInt32)), .val (.int ((x5 &&& (255 : Int32)).toUInt32.toUInt16.toUInt32.toInt32)), .val (.ref sa), .val (.int (0 : Int32))] [(.ref sa)]))
    refine callStatic GoW.of X15 hx hZ (y := (⟨"com/example/ddos_fee_ledger/ddosfeeledger/Money", "isCurrency", "(Ljava/lang/String;)Z"⟩ : MethodName)) (argsL := [(.ref sa)]) hown (hw _ (List.mem_of_getElem? (i := 38) rfl)) (hw _ (List.mem_of_getElem? (i := 39) rfl)) (hw _ (List.mem_of_getElem? (i := 40) rfl)) (hw _ (List.mem_of_getElem? (i := 41) rfl)) (by decide) 0 rfl (rm9_4 l Z a0 hw sa d kd0 gd0 cs T15.heap n0 Zs Od E_sa F_sa_value F_sa_coder A_d Scs hcs) (by decide) (by decide) (by decide) (by decide) (g := (mkF m 107 #[.val (.int x1), .val (.int x2), .val (.int x3), .val (.int x4), .val (.int x5), .val (.int x6), .val (.int (4 : Int32)), .val (.int ((x1 &&& (255 : Int32)).toUInt32.toUInt16.toUInt32.toInt32)), .val (.int ((x2 &&& (255 : Int32)).toUInt32.toUInt16.toUInt32.toInt32)), .val (.int ((x3 &&& (255 : Int32)).toUInt32.toUInt16.toUInt32.toInt32)), .val (.int ((x4 &&& (255 : Int32)).toUInt32.toUInt16.toUInt32.toInt32)), .val (.int ((x5 &&& (255 : Int32)).toUInt32.toUInt16.toUInt32.toInt32)), .val (.ref sa), .val (.int (0 : Int32))] [(.ref sa)])) rfl (by rw [hml]; rfl) (rest := []) (lenOf pd17 rfl) rfl (by show 2 * 0 + _ ≤ _; exact Nat.le_of_eq rfl) (hb hby at_107) ?_
    intro T16 v16 L16 X16 q16
    obtain ⟨rfl, Nq16, e16⟩ := q16
    have N16 := Fr.app N15 Nq16
    show GoW _ _ _ _ _ _ _ (T16.setTop (mkF m 110 #[.val (.int x1), .val (.int x2), .val (.int x3), .val (.int x4), .val (.int x5), .val (.int x6), .val (.int (4 : Int32)), .val (.int ((x1 &&& (255 : Int32)).toUInt32.toUInt16.toUInt32.toInt32)), .val (.int ((x2 &&& (255 : Int32)).toUInt32.toUInt16.toUInt32.toInt32)), .val (.int ((x3 &&& (255 : Int32)).toUInt32.toUInt16.toUInt32.toInt32)), .val (.int ((x4 &&& (255 : Int32)).toUInt32.toUInt16.toUInt32.toInt32)), .val (.int ((x5 &&& (255 : Int32)).toUInt32.toUInt16.toUInt32.toInt32)), .val (.ref sa), .val (.int (0 : Int32))] [(.int (0 : Int32))]))
    refine GoW.of (fun _ q => XS.iload X16.here hx rfl (hb hby at_110) rfl q) ?_
    show GoW _ _ _ _ _ _ _ (T16.setTop (mkF m 112 #[.val (.int x1), .val (.int x2), .val (.int x3), .val (.int x4), .val (.int x5), .val (.int x6), .val (.int (4 : Int32)), .val (.int ((x1 &&& (255 : Int32)).toUInt32.toUInt16.toUInt32.toInt32)), .val (.int ((x2 &&& (255 : Int32)).toUInt32.toUInt16.toUInt32.toInt32)), .val (.int ((x3 &&& (255 : Int32)).toUInt32.toUInt16.toUInt32.toInt32)), .val (.int ((x4 &&& (255 : Int32)).toUInt32.toUInt16.toUInt32.toInt32)), .val (.int ((x5 &&& (255 : Int32)).toUInt32.toUInt16.toUInt32.toInt32)), .val (.ref sa), .val (.int (0 : Int32))] [(.int (0 : Int32)), (.int (0 : Int32))]))
    refine GoW.of (fun _ q => XS.icmpNo X16.here hx rfl (hb hby at_112) rfl (teq rfl).2 q) ?_
    show GoW _ _ _ _ _ _ _ (T16.setTop (mkF m 115 #[.val (.int x1), .val (.int x2), .val (.int x3), .val (.int x4), .val (.int x5), .val (.int x6), .val (.int (4 : Int32)), .val (.int ((x1 &&& (255 : Int32)).toUInt32.toUInt16.toUInt32.toInt32)), .val (.int ((x2 &&& (255 : Int32)).toUInt32.toUInt16.toUInt32.toInt32)), .val (.int ((x3 &&& (255 : Int32)).toUInt32.toUInt16.toUInt32.toInt32)), .val (.int ((x4 &&& (255 : Int32)).toUInt32.toUInt16.toUInt32.toInt32)), .val (.int ((x5 &&& (255 : Int32)).toUInt32.toUInt16.toUInt32.toInt32)), .val (.ref sa), .val (.int (0 : Int32))] []))
    refine GoW.of (fun _ q => XS.iconst X16.here hx rfl (hb hby at_115) q) ?_
    show GoW _ _ _ _ _ _ _ (T16.setTop (mkF m 116 #[.val (.int x1), .val (.int x2), .val (.int x3), .val (.int x4), .val (.int x5), .val (.int x6), .val (.int (4 : Int32)), .val (.int ((x1 &&& (255 : Int32)).toUInt32.toUInt16.toUInt32.toInt32)), .val (.int ((x2 &&& (255 : Int32)).toUInt32.toUInt16.toUInt32.toInt32)), .val (.int ((x3 &&& (255 : Int32)).toUInt32.toUInt16.toUInt32.toInt32)), .val (.int ((x4 &&& (255 : Int32)).toUInt32.toUInt16.toUInt32.toInt32)), .val (.int ((x5 &&& (255 : Int32)).toUInt32.toUInt16.toUInt32.toInt32)), .val (.ref sa), .val (.int (0 : Int32))] [(.int (1 : Int32))]))
    refine GoW.of (fun _ q => XS.goto X16.here hx rfl (pc0 := 116) (pc' := 120) rfl (hb hby at_116) (by decide) (by decide) q) ?_
    show GoW _ _ _ _ _ _ _ (T16.setTop (mkF m 120 #[.val (.int x1), .val (.int x2), .val (.int x3), .val (.int x4), .val (.int x5), .val (.int x6), .val (.int (4 : Int32)), .val (.int ((x1 &&& (255 : Int32)).toUInt32.toUInt16.toUInt32.toInt32)), .val (.int ((x2 &&& (255 : Int32)).toUInt32.toUInt16.toUInt32.toInt32)), .val (.int ((x3 &&& (255 : Int32)).toUInt32.toUInt16.toUInt32.toInt32)), .val (.int ((x4 &&& (255 : Int32)).toUInt32.toUInt16.toUInt32.toInt32)), .val (.int ((x5 &&& (255 : Int32)).toUInt32.toUInt16.toUInt32.toInt32)), .val (.ref sa), .val (.int (0 : Int32))] [(.int (1 : Int32))]))
    refine GoW.retN X16 hS (by rw [e16]; exact hk) hx hlk (t := .boolean) hret (by simp) (hb hby at_120) rfl (by decide) (by decide) ?_
    rw [e16]
    exact ⟨rfl, N16⟩
  · rw [q6]
    show GoW _ _ _ _ _ _ _ (s₁.setTop (mkF m 10 #[.val (.int x1), .val (.int x2), .val (.int x3), .val (.int x4), .val (.int x5), .val (.int x6), .val (.int (5 : Int32)), .unset, .unset, .unset, .unset, .unset, .unset, .unset] []))
    refine GoW.of (fun _ q => XS.iloadN X0.here hx rfl (hb hby at_10) rfl q) ?_
    show GoW _ _ _ _ _ _ _ (s₁.setTop (mkF m 11 #[.val (.int x1), .val (.int x2), .val (.int x3), .val (.int x4), .val (.int x5), .val (.int x6), .val (.int (5 : Int32)), .unset, .unset, .unset, .unset, .unset, .unset, .unset] [(.int x1)]))
    refine GoW.of (fun _ q => XS.sipush X0.here hx rfl (hb hby at_11) q) ?_
    show GoW _ _ _ _ _ _ _ (s₁.setTop (mkF m 14 #[.val (.int x1), .val (.int x2), .val (.int x3), .val (.int x4), .val (.int x5), .val (.int x6), .val (.int (5 : Int32)), .unset, .unset, .unset, .unset, .unset, .unset, .unset] [(.int (255 : Int32)), (.int x1)]))
    refine GoW.of (fun _ q => XS.iand X0.here hx rfl (hb hby at_14) rfl q) ?_
    show GoW _ _ _ _ _ _ _ (s₁.setTop (mkF m 15 #[.val (.int x1), .val (.int x2), .val (.int x3), .val (.int x4), .val (.int x5), .val (.int x6), .val (.int (5 : Int32)), .unset, .unset, .unset, .unset, .unset, .unset, .unset] [(.int (x1 &&& (255 : Int32)))]))
    refine GoW.of (fun _ q => XS.i2c X0.here hx rfl (hb hby at_15) rfl q) ?_
    show GoW _ _ _ _ _ _ _ (s₁.setTop (mkF m 16 #[.val (.int x1), .val (.int x2), .val (.int x3), .val (.int x4), .val (.int x5), .val (.int x6), .val (.int (5 : Int32)), .unset, .unset, .unset, .unset, .unset, .unset, .unset] [(.int ((x1 &&& (255 : Int32)).toUInt32.toUInt16.toUInt32.toInt32))]))
    refine GoW.of (fun _ q => XS.istore X0.here hx rfl (hb hby at_16) rfl (l' := #[.val (.int x1), .val (.int x2), .val (.int x3), .val (.int x4), .val (.int x5), .val (.int x6), .val (.int (5 : Int32)), .val (.int ((x1 &&& (255 : Int32)).toUInt32.toUInt16.toUInt32.toInt32)), .unset, .unset, .unset, .unset, .unset, .unset]) rfl q) ?_
    show GoW _ _ _ _ _ _ _ (s₁.setTop (mkF m 18 #[.val (.int x1), .val (.int x2), .val (.int x3), .val (.int x4), .val (.int x5), .val (.int x6), .val (.int (5 : Int32)), .val (.int ((x1 &&& (255 : Int32)).toUInt32.toUInt16.toUInt32.toInt32)), .unset, .unset, .unset, .unset, .unset, .unset] []))
    refine GoW.of (fun _ q => XS.iloadN X0.here hx rfl (hb hby at_18) rfl q) ?_
    show GoW _ _ _ _ _ _ _ (s₁.setTop (mkF m 19 #[.val (.int x1), .val (.int x2), .val (.int x3), .val (.int x4), .val (.int x5), .val (.int x6), .val (.int (5 : Int32)), .val (.int ((x1 &&& (255 : Int32)).toUInt32.toUInt16.toUInt32.toInt32)), .unset, .unset, .unset, .unset, .unset, .unset] [(.int x2)]))
    refine GoW.of (fun _ q => XS.sipush X0.here hx rfl (hb hby at_19) q) ?_
    show GoW _ _ _ _ _ _ _ (s₁.setTop (mkF m 22 #[.val (.int x1), .val (.int x2), .val (.int x3), .val (.int x4), .val (.int x5), .val (.int x6), .val (.int (5 : Int32)), .val (.int ((x1 &&& (255 : Int32)).toUInt32.toUInt16.toUInt32.toInt32)), .unset, .unset, .unset, .unset, .unset, .unset] [(.int (255 : Int32)), (.int x2)]))
    refine GoW.of (fun _ q => XS.iand X0.here hx rfl (hb hby at_22) rfl q) ?_
    show GoW _ _ _ _ _ _ _ (s₁.setTop (mkF m 23 #[.val (.int x1), .val (.int x2), .val (.int x3), .val (.int x4), .val (.int x5), .val (.int x6), .val (.int (5 : Int32)), .val (.int ((x1 &&& (255 : Int32)).toUInt32.toUInt16.toUInt32.toInt32)), .unset, .unset, .unset, .unset, .unset, .unset] [(.int (x2 &&& (255 : Int32)))]))
    refine GoW.of (fun _ q => XS.i2c X0.here hx rfl (hb hby at_23) rfl q) ?_
    show GoW _ _ _ _ _ _ _ (s₁.setTop (mkF m 24 #[.val (.int x1), .val (.int x2), .val (.int x3), .val (.int x4), .val (.int x5), .val (.int x6), .val (.int (5 : Int32)), .val (.int ((x1 &&& (255 : Int32)).toUInt32.toUInt16.toUInt32.toInt32)), .unset, .unset, .unset, .unset, .unset, .unset] [(.int ((x2 &&& (255 : Int32)).toUInt32.toUInt16.toUInt32.toInt32))]))
    refine GoW.of (fun _ q => XS.istore X0.here hx rfl (hb hby at_24) rfl (l' := #[.val (.int x1), .val (.int x2), .val (.int x3), .val (.int x4), .val (.int x5), .val (.int x6), .val (.int (5 : Int32)), .val (.int ((x1 &&& (255 : Int32)).toUInt32.toUInt16.toUInt32.toInt32)), .val (.int ((x2 &&& (255 : Int32)).toUInt32.toUInt16.toUInt32.toInt32)), .unset, .unset, .unset, .unset, .unset]) rfl q) ?_
    show GoW _ _ _ _ _ _ _ (s₁.setTop (mkF m 26 #[.val (.int x1), .val (.int x2), .val (.int x3), .val (.int x4), .val (.int x5), .val (.int x6), .val (.int (5 : Int32)), .val (.int ((x1 &&& (255 : Int32)).toUInt32.toUInt16.toUInt32.toInt32)), .val (.int ((x2 &&& (255 : Int32)).toUInt32.toUInt16.toUInt32.toInt32)), .unset, .unset, .unset, .unset, .unset] []))
    refine GoW.of (fun _ q => XS.iloadN X0.here hx rfl (hb hby at_26) rfl q) ?_
    show GoW _ _ _ _ _ _ _ (s₁.setTop (mkF m 27 #[.val (.int x1), .val (.int x2), .val (.int x3), .val (.int x4), .val (.int x5), .val (.int x6), .val (.int (5 : Int32)), .val (.int ((x1 &&& (255 : Int32)).toUInt32.toUInt16.toUInt32.toInt32)), .val (.int ((x2 &&& (255 : Int32)).toUInt32.toUInt16.toUInt32.toInt32)), .unset, .unset, .unset, .unset, .unset] [(.int x3)]))
    refine GoW.of (fun _ q => XS.sipush X0.here hx rfl (hb hby at_27) q) ?_
    show GoW _ _ _ _ _ _ _ (s₁.setTop (mkF m 30 #[.val (.int x1), .val (.int x2), .val (.int x3), .val (.int x4), .val (.int x5), .val (.int x6), .val (.int (5 : Int32)), .val (.int ((x1 &&& (255 : Int32)).toUInt32.toUInt16.toUInt32.toInt32)), .val (.int ((x2 &&& (255 : Int32)).toUInt32.toUInt16.toUInt32.toInt32)), .unset, .unset, .unset, .unset, .unset] [(.int (255 : Int32)), (.int x3)]))
    refine GoW.of (fun _ q => XS.iand X0.here hx rfl (hb hby at_30) rfl q) ?_
    show GoW _ _ _ _ _ _ _ (s₁.setTop (mkF m 31 #[.val (.int x1), .val (.int x2), .val (.int x3), .val (.int x4), .val (.int x5), .val (.int x6), .val (.int (5 : Int32)), .val (.int ((x1 &&& (255 : Int32)).toUInt32.toUInt16.toUInt32.toInt32)), .val (.int ((x2 &&& (255 : Int32)).toUInt32.toUInt16.toUInt32.toInt32)), .unset, .unset, .unset, .unset, .unset] [(.int (x3 &&& (255 : Int32)))]))
    refine GoW.of (fun _ q => XS.i2c X0.here hx rfl (hb hby at_31) rfl q) ?_
    show GoW _ _ _ _ _ _ _ (s₁.setTop (mkF m 32 #[.val (.int x1), .val (.int x2), .val (.int x3), .val (.int x4), .val (.int x5), .val (.int x6), .val (.int (5 : Int32)), .val (.int ((x1 &&& (255 : Int32)).toUInt32.toUInt16.toUInt32.toInt32)), .val (.int ((x2 &&& (255 : Int32)).toUInt32.toUInt16.toUInt32.toInt32)), .unset, .unset, .unset, .unset, .unset] [(.int ((x3 &&& (255 : Int32)).toUInt32.toUInt16.toUInt32.toInt32))]))
    refine GoW.of (fun _ q => XS.istore X0.here hx rfl (hb hby at_32) rfl (l' := #[.val (.int x1), .val (.int x2), .val (.int x3), .val (.int x4), .val (.int x5), .val (.int x6), .val (.int (5 : Int32)), .val (.int ((x1 &&& (255 : Int32)).toUInt32.toUInt16.toUInt32.toInt32)), .val (.int ((x2 &&& (255 : Int32)).toUInt32.toUInt16.toUInt32.toInt32)), .val (.int ((x3 &&& (255 : Int32)).toUInt32.toUInt16.toUInt32.toInt32)), .unset, .unset, .unset, .unset]) rfl q) ?_
    show GoW _ _ _ _ _ _ _ (s₁.setTop (mkF m 34 #[.val (.int x1), .val (.int x2), .val (.int x3), .val (.int x4), .val (.int x5), .val (.int x6), .val (.int (5 : Int32)), .val (.int ((x1 &&& (255 : Int32)).toUInt32.toUInt16.toUInt32.toInt32)), .val (.int ((x2 &&& (255 : Int32)).toUInt32.toUInt16.toUInt32.toInt32)), .val (.int ((x3 &&& (255 : Int32)).toUInt32.toUInt16.toUInt32.toInt32)), .unset, .unset, .unset, .unset] []))
    refine GoW.of (fun _ q => XS.iloadN X0.here hx rfl (hb hby at_34) rfl q) ?_
    show GoW _ _ _ _ _ _ _ (s₁.setTop (mkF m 35 #[.val (.int x1), .val (.int x2), .val (.int x3), .val (.int x4), .val (.int x5), .val (.int x6), .val (.int (5 : Int32)), .val (.int ((x1 &&& (255 : Int32)).toUInt32.toUInt16.toUInt32.toInt32)), .val (.int ((x2 &&& (255 : Int32)).toUInt32.toUInt16.toUInt32.toInt32)), .val (.int ((x3 &&& (255 : Int32)).toUInt32.toUInt16.toUInt32.toInt32)), .unset, .unset, .unset, .unset] [(.int x4)]))
    refine GoW.of (fun _ q => XS.sipush X0.here hx rfl (hb hby at_35) q) ?_
    show GoW _ _ _ _ _ _ _ (s₁.setTop (mkF m 38 #[.val (.int x1), .val (.int x2), .val (.int x3), .val (.int x4), .val (.int x5), .val (.int x6), .val (.int (5 : Int32)), .val (.int ((x1 &&& (255 : Int32)).toUInt32.toUInt16.toUInt32.toInt32)), .val (.int ((x2 &&& (255 : Int32)).toUInt32.toUInt16.toUInt32.toInt32)), .val (.int ((x3 &&& (255 : Int32)).toUInt32.toUInt16.toUInt32.toInt32)), .unset, .unset, .unset, .unset] [(.int (255 : Int32)), (.int x4)]))
    refine GoW.of (fun _ q => XS.iand X0.here hx rfl (hb hby at_38) rfl q) ?_
    show GoW _ _ _ _ _ _ _ (s₁.setTop (mkF m 39 #[.val (.int x1), .val (.int x2), .val (.int x3), .val (.int x4), .val (.int x5), .val (.int x6), .val (.int (5 : Int32)), .val (.int ((x1 &&& (255 : Int32)).toUInt32.toUInt16.toUInt32.toInt32)), .val (.int ((x2 &&& (255 : Int32)).toUInt32.toUInt16.toUInt32.toInt32)), .val (.int ((x3 &&& (255 : Int32)).toUInt32.toUInt16.toUInt32.toInt32)), .unset, .unset, .unset, .unset] [(.int (x4 &&& (255 : Int32)))]))
    refine GoW.of (fun _ q => XS.i2c X0.here hx rfl (hb hby at_39) rfl q) ?_
    show GoW _ _ _ _ _ _ _ (s₁.setTop (mkF m 40 #[.val (.int x1), .val (.int x2), .val (.int x3), .val (.int x4), .val (.int x5), .val (.int x6), .val (.int (5 : Int32)), .val (.int ((x1 &&& (255 : Int32)).toUInt32.toUInt16.toUInt32.toInt32)), .val (.int ((x2 &&& (255 : Int32)).toUInt32.toUInt16.toUInt32.toInt32)), .val (.int ((x3 &&& (255 : Int32)).toUInt32.toUInt16.toUInt32.toInt32)), .unset, .unset, .unset, .unset] [(.int ((x4 &&& (255 : Int32)).toUInt32.toUInt16.toUInt32.toInt32))]))
    refine GoW.of (fun _ q => XS.istore X0.here hx rfl (hb hby at_40) rfl (l' := #[.val (.int x1), .val (.int x2), .val (.int x3), .val (.int x4), .val (.int x5), .val (.int x6), .val (.int (5 : Int32)), .val (.int ((x1 &&& (255 : Int32)).toUInt32.toUInt16.toUInt32.toInt32)), .val (.int ((x2 &&& (255 : Int32)).toUInt32.toUInt16.toUInt32.toInt32)), .val (.int ((x3 &&& (255 : Int32)).toUInt32.toUInt16.toUInt32.toInt32)), .val (.int ((x4 &&& (255 : Int32)).toUInt32.toUInt16.toUInt32.toInt32)), .unset, .unset, .unset]) rfl q) ?_
    show GoW _ _ _ _ _ _ _ (s₁.setTop (mkF m 42 #[.val (.int x1), .val (.int x2), .val (.int x3), .val (.int x4), .val (.int x5), .val (.int x6), .val (.int (5 : Int32)), .val (.int ((x1 &&& (255 : Int32)).toUInt32.toUInt16.toUInt32.toInt32)), .val (.int ((x2 &&& (255 : Int32)).toUInt32.toUInt16.toUInt32.toInt32)), .val (.int ((x3 &&& (255 : Int32)).toUInt32.toUInt16.toUInt32.toInt32)), .val (.int ((x4 &&& (255 : Int32)).toUInt32.toUInt16.toUInt32.toInt32)), .unset, .unset, .unset] []))
    refine GoW.of (fun _ q => XS.iload X0.here hx rfl (hb hby at_42) rfl q) ?_
    show GoW _ _ _ _ _ _ _ (s₁.setTop (mkF m 44 #[.val (.int x1), .val (.int x2), .val (.int x3), .val (.int x4), .val (.int x5), .val (.int x6), .val (.int (5 : Int32)), .val (.int ((x1 &&& (255 : Int32)).toUInt32.toUInt16.toUInt32.toInt32)), .val (.int ((x2 &&& (255 : Int32)).toUInt32.toUInt16.toUInt32.toInt32)), .val (.int ((x3 &&& (255 : Int32)).toUInt32.toUInt16.toUInt32.toInt32)), .val (.int ((x4 &&& (255 : Int32)).toUInt32.toUInt16.toUInt32.toInt32)), .unset, .unset, .unset] [(.int x5)]))
    refine GoW.of (fun _ q => XS.sipush X0.here hx rfl (hb hby at_44) q) ?_
    show GoW _ _ _ _ _ _ _ (s₁.setTop (mkF m 47 #[.val (.int x1), .val (.int x2), .val (.int x3), .val (.int x4), .val (.int x5), .val (.int x6), .val (.int (5 : Int32)), .val (.int ((x1 &&& (255 : Int32)).toUInt32.toUInt16.toUInt32.toInt32)), .val (.int ((x2 &&& (255 : Int32)).toUInt32.toUInt16.toUInt32.toInt32)), .val (.int ((x3 &&& (255 : Int32)).toUInt32.toUInt16.toUInt32.toInt32)), .val (.int ((x4 &&& (255 : Int32)).toUInt32.toUInt16.toUInt32.toInt32)), .unset, .unset, .unset] [(.int (255 : Int32)), (.int x5)]))
    refine GoW.of (fun _ q => XS.iand X0.here hx rfl (hb hby at_47) rfl q) ?_
    show GoW _ _ _ _ _ _ _ (s₁.setTop (mkF m 48 #[.val (.int x1), .val (.int x2), .val (.int x3), .val (.int x4), .val (.int x5), .val (.int x6), .val (.int (5 : Int32)), .val (.int ((x1 &&& (255 : Int32)).toUInt32.toUInt16.toUInt32.toInt32)), .val (.int ((x2 &&& (255 : Int32)).toUInt32.toUInt16.toUInt32.toInt32)), .val (.int ((x3 &&& (255 : Int32)).toUInt32.toUInt16.toUInt32.toInt32)), .val (.int ((x4 &&& (255 : Int32)).toUInt32.toUInt16.toUInt32.toInt32)), .unset, .unset, .unset] [(.int (x5 &&& (255 : Int32)))]))
    refine GoW.of (fun _ q => XS.i2c X0.here hx rfl (hb hby at_48) rfl q) ?_
    show GoW _ _ _ _ _ _ _ (s₁.setTop (mkF m 49 #[.val (.int x1), .val (.int x2), .val (.int x3), .val (.int x4), .val (.int x5), .val (.int x6), .val (.int (5 : Int32)), .val (.int ((x1 &&& (255 : Int32)).toUInt32.toUInt16.toUInt32.toInt32)), .val (.int ((x2 &&& (255 : Int32)).toUInt32.toUInt16.toUInt32.toInt32)), .val (.int ((x3 &&& (255 : Int32)).toUInt32.toUInt16.toUInt32.toInt32)), .val (.int ((x4 &&& (255 : Int32)).toUInt32.toUInt16.toUInt32.toInt32)), .unset, .unset, .unset] [(.int ((x5 &&& (255 : Int32)).toUInt32.toUInt16.toUInt32.toInt32))]))
    refine GoW.of (fun _ q => XS.istore X0.here hx rfl (hb hby at_49) rfl (l' := #[.val (.int x1), .val (.int x2), .val (.int x3), .val (.int x4), .val (.int x5), .val (.int x6), .val (.int (5 : Int32)), .val (.int ((x1 &&& (255 : Int32)).toUInt32.toUInt16.toUInt32.toInt32)), .val (.int ((x2 &&& (255 : Int32)).toUInt32.toUInt16.toUInt32.toInt32)), .val (.int ((x3 &&& (255 : Int32)).toUInt32.toUInt16.toUInt32.toInt32)), .val (.int ((x4 &&& (255 : Int32)).toUInt32.toUInt16.toUInt32.toInt32)), .val (.int ((x5 &&& (255 : Int32)).toUInt32.toUInt16.toUInt32.toInt32)), .unset, .unset]) rfl q) ?_
    show GoW _ _ _ _ _ _ _ (s₁.setTop (mkF m 51 #[.val (.int x1), .val (.int x2), .val (.int x3), .val (.int x4), .val (.int x5), .val (.int x6), .val (.int (5 : Int32)), .val (.int ((x1 &&& (255 : Int32)).toUInt32.toUInt16.toUInt32.toInt32)), .val (.int ((x2 &&& (255 : Int32)).toUInt32.toUInt16.toUInt32.toInt32)), .val (.int ((x3 &&& (255 : Int32)).toUInt32.toUInt16.toUInt32.toInt32)), .val (.int ((x4 &&& (255 : Int32)).toUInt32.toUInt16.toUInt32.toInt32)), .val (.int ((x5 &&& (255 : Int32)).toUInt32.toUInt16.toUInt32.toInt32)), .unset, .unset] []))
    refine GoW.of (fun _ q => XS.iload X0.here hx rfl (hb hby at_51) rfl q) ?_
    show GoW _ _ _ _ _ _ _ (s₁.setTop (mkF m 53 #[.val (.int x1), .val (.int x2), .val (.int x3), .val (.int x4), .val (.int x5), .val (.int x6), .val (.int (5 : Int32)), .val (.int ((x1 &&& (255 : Int32)).toUInt32.toUInt16.toUInt32.toInt32)), .val (.int ((x2 &&& (255 : Int32)).toUInt32.toUInt16.toUInt32.toInt32)), .val (.int ((x3 &&& (255 : Int32)).toUInt32.toUInt16.toUInt32.toInt32)), .val (.int ((x4 &&& (255 : Int32)).toUInt32.toUInt16.toUInt32.toInt32)), .val (.int ((x5 &&& (255 : Int32)).toUInt32.toUInt16.toUInt32.toInt32)), .unset, .unset] [(.int (5 : Int32))]))
    refine GoW.of (fun _ q => XS.iload X0.here hx rfl (hb hby at_53) rfl q) ?_
    show GoW _ _ _ _ _ _ _ (s₁.setTop (mkF m 55 #[.val (.int x1), .val (.int x2), .val (.int x3), .val (.int x4), .val (.int x5), .val (.int x6), .val (.int (5 : Int32)), .val (.int ((x1 &&& (255 : Int32)).toUInt32.toUInt16.toUInt32.toInt32)), .val (.int ((x2 &&& (255 : Int32)).toUInt32.toUInt16.toUInt32.toInt32)), .val (.int ((x3 &&& (255 : Int32)).toUInt32.toUInt16.toUInt32.toInt32)), .val (.int ((x4 &&& (255 : Int32)).toUInt32.toUInt16.toUInt32.toInt32)), .val (.int ((x5 &&& (255 : Int32)).toUInt32.toUInt16.toUInt32.toInt32)), .unset, .unset] [(.int ((x1 &&& (255 : Int32)).toUInt32.toUInt16.toUInt32.toInt32)), (.int (5 : Int32))]))
    refine GoW.of (fun _ q => XS.iload X0.here hx rfl (hb hby at_55) rfl q) ?_
    show GoW _ _ _ _ _ _ _ (s₁.setTop (mkF m 57 #[.val (.int x1), .val (.int x2), .val (.int x3), .val (.int x4), .val (.int x5), .val (.int x6), .val (.int (5 : Int32)), .val (.int ((x1 &&& (255 : Int32)).toUInt32.toUInt16.toUInt32.toInt32)), .val (.int ((x2 &&& (255 : Int32)).toUInt32.toUInt16.toUInt32.toInt32)), .val (.int ((x3 &&& (255 : Int32)).toUInt32.toUInt16.toUInt32.toInt32)), .val (.int ((x4 &&& (255 : Int32)).toUInt32.toUInt16.toUInt32.toInt32)), .val (.int ((x5 &&& (255 : Int32)).toUInt32.toUInt16.toUInt32.toInt32)), .unset, .unset] [(.int ((x2 &&& (255 : Int32)).toUInt32.toUInt16.toUInt32.toInt32)), (.int ((x1 &&& (255 : Int32)).toUInt32.toUInt16.toUInt32.toInt32)), (.int (5 : Int32))]))
    refine GoW.of (fun _ q => XS.iload X0.here hx rfl (hb hby at_57) rfl q) ?_
    show GoW _ _ _ _ _ _ _ (s₁.setTop (mkF m 59 #[.val (.int x1), .val (.int x2), .val (.int x3), .val (.int x4), .val (.int x5), .val (.int x6), .val (.int (5 : Int32)), .val (.int ((x1 &&& (255 : Int32)).toUInt32.toUInt16.toUInt32.toInt32)), .val (.int ((x2 &&& (255 : Int32)).toUInt32.toUInt16.toUInt32.toInt32)), .val (.int ((x3 &&& (255 : Int32)).toUInt32.toUInt16.toUInt32.toInt32)), .val (.int ((x4 &&& (255 : Int32)).toUInt32.toUInt16.toUInt32.toInt32)), .val (.int ((x5 &&& (255 : Int32)).toUInt32.toUInt16.toUInt32.toInt32)), .unset, .unset] [(.int ((x3 &&& (255 : Int32)).toUInt32.toUInt16.toUInt32.toInt32)), (.int ((x2 &&& (255 : Int32)).toUInt32.toUInt16.toUInt32.toInt32)), (.int ((x1 &&& (255 : Int32)).toUInt32.toUInt16.toUInt32.toInt32)), (.int (5 : Int32))]))
    refine GoW.of (fun _ q => XS.iload X0.here hx rfl (hb hby at_59) rfl q) ?_
    show GoW _ _ _ _ _ _ _ (s₁.setTop (mkF m 61 #[.val (.int x1), .val (.int x2), .val (.int x3), .val (.int x4), .val (.int x5), .val (.int x6), .val (.int (5 : Int32)), .val (.int ((x1 &&& (255 : Int32)).toUInt32.toUInt16.toUInt32.toInt32)), .val (.int ((x2 &&& (255 : Int32)).toUInt32.toUInt16.toUInt32.toInt32)), .val (.int ((x3 &&& (255 : Int32)).toUInt32.toUInt16.toUInt32.toInt32)), .val (.int ((x4 &&& (255 : Int32)).toUInt32.toUInt16.toUInt32.toInt32)), .val (.int ((x5 &&& (255 : Int32)).toUInt32.toUInt16.toUInt32.toInt32)), .unset, .unset] [(.int ((x4 &&& (255 : Int32)).toUInt32.toUInt16.toUInt32.toInt32)), (.int ((x3 &&& (255 : Int32)).toUInt32.toUInt16.toUInt32.toInt32)), (.int ((x2 &&& (255 : Int32)).toUInt32.toUInt16.toUInt32.toInt32)), (.int ((x1 &&& (255 : Int32)).toUInt32.toUInt16.toUInt32.toInt32)), (.int (5 : Int32))]))
    refine GoW.of (fun _ q => XS.iload X0.here hx rfl (hb hby at_61) rfl q) ?_
    show GoW _ _ _ _ _ _ _ (s₁.setTop (mkF m 63 #[.val (.int x1), .val (.int x2), .val (.int x3), .val (.int x4), .val (.int x5), .val (.int x6), .val (.int (5 : Int32)), .val (.int ((x1 &&& (255 : Int32)).toUInt32.toUInt16.toUInt32.toInt32)), .val (.int ((x2 &&& (255 : Int32)).toUInt32.toUInt16.toUInt32.toInt32)), .val (.int ((x3 &&& (255 : Int32)).toUInt32.toUInt16.toUInt32.toInt32)), .val (.int ((x4 &&& (255 : Int32)).toUInt32.toUInt16.toUInt32.toInt32)), .val (.int ((x5 &&& (255 : Int32)).toUInt32.toUInt16.toUInt32.toInt32)), .unset, .unset] [(.int ((x5 &&& (255 : Int32)).toUInt32.toUInt16.toUInt32.toInt32)), (.int ((x4 &&& (255 : Int32)).toUInt32.toUInt16.toUInt32.toInt32)), (.int ((x3 &&& (255 : Int32)).toUInt32.toUInt16.toUInt32.toInt32)), (.int ((x2 &&& (255 : Int32)).toUInt32.toUInt16.toUInt32.toInt32)), (.int ((x1 &&& (255 : Int32)).toUInt32.toUInt16.toUInt32.toInt32)), (.int (5 : Int32))]))
    refine callStatic GoW.of X0 hx hZ (y := (⟨"com/example/ddos_fee_ledger/ddosfeeledger/MoneyIsCurrencyPinLaw", "make", "(ICCCCC)Ljava/lang/String;"⟩ : MethodName)) (argsL := [(.int (5 : Int32)), (.int ((x1 &&& (255 : Int32)).toUInt32.toUInt16.toUInt32.toInt32)), (.int ((x2 &&& (255 : Int32)).toUInt32.toUInt16.toUInt32.toInt32)), (.int ((x3 &&& (255 : Int32)).toUInt32.toUInt16.toUInt32.toInt32)), (.int ((x4 &&& (255 : Int32)).toUInt32.toUInt16.toUInt32.toInt32)), (.int ((x5 &&& (255 : Int32)).toUInt32.toUInt16.toUInt32.toInt32))]) hown (hw _ (List.mem_of_getElem? (i := 1) rfl)) (hw _ (List.mem_of_getElem? (i := 2) rfl)) (hw _ (List.mem_of_getElem? (i := 3) rfl)) (hw _ (List.mem_of_getElem? (i := 4) rfl)) (by decide) 0 e0 (rm1_5 l Z a0 hw ((x1 &&& (255 : Int32)).toUInt32.toUInt16.toUInt32.toInt32) ((x2 &&& (255 : Int32)).toUInt32.toUInt16.toUInt32.toInt32) ((x3 &&& (255 : Int32)).toUInt32.toUInt16.toUInt32.toInt32) ((x4 &&& (255 : Int32)).toUInt32.toUInt16.toUInt32.toInt32) ((x5 &&& (255 : Int32)).toUInt32.toUInt16.toUInt32.toInt32) cs h0 n0 Zs Od (own_chr2 _) (own_chr2 _) (own_chr2 _) (own_chr2 _) (own_chr2 _) Scs hcs) (by decide) (by decide) (by decide) (by decide) (g := (mkF m 63 #[.val (.int x1), .val (.int x2), .val (.int x3), .val (.int x4), .val (.int x5), .val (.int x6), .val (.int (5 : Int32)), .val (.int ((x1 &&& (255 : Int32)).toUInt32.toUInt16.toUInt32.toInt32)), .val (.int ((x2 &&& (255 : Int32)).toUInt32.toUInt16.toUInt32.toInt32)), .val (.int ((x3 &&& (255 : Int32)).toUInt32.toUInt16.toUInt32.toInt32)), .val (.int ((x4 &&& (255 : Int32)).toUInt32.toUInt16.toUInt32.toInt32)), .val (.int ((x5 &&& (255 : Int32)).toUInt32.toUInt16.toUInt32.toInt32)), .unset, .unset] [(.int ((x5 &&& (255 : Int32)).toUInt32.toUInt16.toUInt32.toInt32)), (.int ((x4 &&& (255 : Int32)).toUInt32.toUInt16.toUInt32.toInt32)), (.int ((x3 &&& (255 : Int32)).toUInt32.toUInt16.toUInt32.toInt32)), (.int ((x2 &&& (255 : Int32)).toUInt32.toUInt16.toUInt32.toInt32)), (.int ((x1 &&& (255 : Int32)).toUInt32.toUInt16.toUInt32.toInt32)), (.int (5 : Int32))])) rfl (by rw [hml]; rfl) (rest := []) (lenOf pd16 rfl) rfl (by show 2 * 0 + _ ≤ _; exact Nat.le_of_eq rfl) (hb hby at_63) ?_
    intro T17 v17 L17 X17 q17
    obtain ⟨sa, d, kd0, gd0, rfl, Nq17, K17, f17_0, f17_1, f17_2, f17_3, f17_4⟩ := q17
    have N17 := Fr.app N0 Nq17
    have g_sa : n0 ≤ sa := Nat.le_trans Zs f17_0
    have sz_sa : h0.size ≤ sa := Nat.le_trans Kp.1 f17_0
    have Zs := Nat.le_trans Zs K17.1
    have Kp := Kp.trans K17 all0
    have hk := Nat.le_trans hk K17.1
    have Od := Od.keep K17 all0
    have E_sa := f17_1
    have F_sa_value := f17_2
    have F_sa_coder := f17_3
    have A_d := f17_4
    show GoW _ _ _ _ _ _ _ (T17.setTop (mkF m 66 #[.val (.int x1), .val (.int x2), .val (.int x3), .val (.int x4), .val (.int x5), .val (.int x6), .val (.int (5 : Int32)), .val (.int ((x1 &&& (255 : Int32)).toUInt32.toUInt16.toUInt32.toInt32)), .val (.int ((x2 &&& (255 : Int32)).toUInt32.toUInt16.toUInt32.toInt32)), .val (.int ((x3 &&& (255 : Int32)).toUInt32.toUInt16.toUInt32.toInt32)), .val (.int ((x4 &&& (255 : Int32)).toUInt32.toUInt16.toUInt32.toInt32)), .val (.int ((x5 &&& (255 : Int32)).toUInt32.toUInt16.toUInt32.toInt32)), .unset, .unset] [(.ref sa)]))
    refine GoW.of (fun _ q => XS.astore X17.here hx rfl (hb hby at_66) rfl rfl (l' := #[.val (.int x1), .val (.int x2), .val (.int x3), .val (.int x4), .val (.int x5), .val (.int x6), .val (.int (5 : Int32)), .val (.int ((x1 &&& (255 : Int32)).toUInt32.toUInt16.toUInt32.toInt32)), .val (.int ((x2 &&& (255 : Int32)).toUInt32.toUInt16.toUInt32.toInt32)), .val (.int ((x3 &&& (255 : Int32)).toUInt32.toUInt16.toUInt32.toInt32)), .val (.int ((x4 &&& (255 : Int32)).toUInt32.toUInt16.toUInt32.toInt32)), .val (.int ((x5 &&& (255 : Int32)).toUInt32.toUInt16.toUInt32.toInt32)), .val (.ref sa), .unset]) rfl q) ?_
    show GoW _ _ _ _ _ _ _ (T17.setTop (mkF m 68 #[.val (.int x1), .val (.int x2), .val (.int x3), .val (.int x4), .val (.int x5), .val (.int x6), .val (.int (5 : Int32)), .val (.int ((x1 &&& (255 : Int32)).toUInt32.toUInt16.toUInt32.toInt32)), .val (.int ((x2 &&& (255 : Int32)).toUInt32.toUInt16.toUInt32.toInt32)), .val (.int ((x3 &&& (255 : Int32)).toUInt32.toUInt16.toUInt32.toInt32)), .val (.int ((x4 &&& (255 : Int32)).toUInt32.toUInt16.toUInt32.toInt32)), .val (.int ((x5 &&& (255 : Int32)).toUInt32.toUInt16.toUInt32.toInt32)), .val (.ref sa), .unset] []))
    refine GoW.of (fun _ q => XS.iload X17.here hx rfl (hb hby at_68) rfl q) ?_
    show GoW _ _ _ _ _ _ _ (T17.setTop (mkF m 70 #[.val (.int x1), .val (.int x2), .val (.int x3), .val (.int x4), .val (.int x5), .val (.int x6), .val (.int (5 : Int32)), .val (.int ((x1 &&& (255 : Int32)).toUInt32.toUInt16.toUInt32.toInt32)), .val (.int ((x2 &&& (255 : Int32)).toUInt32.toUInt16.toUInt32.toInt32)), .val (.int ((x3 &&& (255 : Int32)).toUInt32.toUInt16.toUInt32.toInt32)), .val (.int ((x4 &&& (255 : Int32)).toUInt32.toUInt16.toUInt32.toInt32)), .val (.int ((x5 &&& (255 : Int32)).toUInt32.toUInt16.toUInt32.toInt32)), .val (.ref sa), .unset] [(.int (5 : Int32))]))
    refine GoW.of (fun _ q => XS.iconst X17.here hx rfl (hb hby at_70) q) ?_
    show GoW _ _ _ _ _ _ _ (T17.setTop (mkF m 71 #[.val (.int x1), .val (.int x2), .val (.int x3), .val (.int x4), .val (.int x5), .val (.int x6), .val (.int (5 : Int32)), .val (.int ((x1 &&& (255 : Int32)).toUInt32.toUInt16.toUInt32.toInt32)), .val (.int ((x2 &&& (255 : Int32)).toUInt32.toUInt16.toUInt32.toInt32)), .val (.int ((x3 &&& (255 : Int32)).toUInt32.toUInt16.toUInt32.toInt32)), .val (.int ((x4 &&& (255 : Int32)).toUInt32.toUInt16.toUInt32.toInt32)), .val (.int ((x5 &&& (255 : Int32)).toUInt32.toUInt16.toUInt32.toInt32)), .val (.ref sa), .unset] [(.int (3 : Int32)), (.int (5 : Int32))]))
    refine GoW.of (fun _ q => XS.icmpYes X17.here hx rfl (pc0 := 71) (pc' := 102) rfl (hb hby at_71) rfl (feq (by decide)).2 (by decide) (by decide) q) ?_
    show GoW _ _ _ _ _ _ _ (T17.setTop (mkF m 102 #[.val (.int x1), .val (.int x2), .val (.int x3), .val (.int x4), .val (.int x5), .val (.int x6), .val (.int (5 : Int32)), .val (.int ((x1 &&& (255 : Int32)).toUInt32.toUInt16.toUInt32.toInt32)), .val (.int ((x2 &&& (255 : Int32)).toUInt32.toUInt16.toUInt32.toInt32)), .val (.int ((x3 &&& (255 : Int32)).toUInt32.toUInt16.toUInt32.toInt32)), .val (.int ((x4 &&& (255 : Int32)).toUInt32.toUInt16.toUInt32.toInt32)), .val (.int ((x5 &&& (255 : Int32)).toUInt32.toUInt16.toUInt32.toInt32)), .val (.ref sa), .unset] []))
    refine GoW.of (fun _ q => XS.iconst X17.here hx rfl (hb hby at_102) q) ?_
    show GoW _ _ _ _ _ _ _ (T17.setTop (mkF m 103 #[.val (.int x1), .val (.int x2), .val (.int x3), .val (.int x4), .val (.int x5), .val (.int x6), .val (.int (5 : Int32)), .val (.int ((x1 &&& (255 : Int32)).toUInt32.toUInt16.toUInt32.toInt32)), .val (.int ((x2 &&& (255 : Int32)).toUInt32.toUInt16.toUInt32.toInt32)), .val (.int ((x3 &&& (255 : Int32)).toUInt32.toUInt16.toUInt32.toInt32)), .val (.int ((x4 &&& (255 : Int32)).toUInt32.toUInt16.toUInt32.toInt32)), .val (.int ((x5 &&& (255 : Int32)).toUInt32.toUInt16.toUInt32.toInt32)), .val (.ref sa), .unset] [(.int (0 : Int32))]))
    refine GoW.of (fun _ q => XS.istore X17.here hx rfl (hb hby at_103) rfl (l' := #[.val (.int x1), .val (.int x2), .val (.int x3), .val (.int x4), .val (.int x5), .val (.int x6), .val (.int (5 : Int32)), .val (.int ((x1 &&& (255 : Int32)).toUInt32.toUInt16.toUInt32.toInt32)), .val (.int ((x2 &&& (255 : Int32)).toUInt32.toUInt16.toUInt32.toInt32)), .val (.int ((x3 &&& (255 : Int32)).toUInt32.toUInt16.toUInt32.toInt32)), .val (.int ((x4 &&& (255 : Int32)).toUInt32.toUInt16.toUInt32.toInt32)), .val (.int ((x5 &&& (255 : Int32)).toUInt32.toUInt16.toUInt32.toInt32)), .val (.ref sa), .val (.int (0 : Int32))]) rfl q) ?_
    show GoW _ _ _ _ _ _ _ (T17.setTop (mkF m 105 #[.val (.int x1), .val (.int x2), .val (.int x3), .val (.int x4), .val (.int x5), .val (.int x6), .val (.int (5 : Int32)), .val (.int ((x1 &&& (255 : Int32)).toUInt32.toUInt16.toUInt32.toInt32)), .val (.int ((x2 &&& (255 : Int32)).toUInt32.toUInt16.toUInt32.toInt32)), .val (.int ((x3 &&& (255 : Int32)).toUInt32.toUInt16.toUInt32.toInt32)), .val (.int ((x4 &&& (255 : Int32)).toUInt32.toUInt16.toUInt32.toInt32)), .val (.int ((x5 &&& (255 : Int32)).toUInt32.toUInt16.toUInt32.toInt32)), .val (.ref sa), .val (.int (0 : Int32))] []))
    refine GoW.of (fun _ q => XS.aload X17.here hx rfl (hb hby at_105) rfl rfl q) ?_
    show GoW _ _ _ _ _ _ _ (T17.setTop (mkF m 107 #[.val (.int x1), .val (.int x2), .val (.int x3), .val (.int x4), .val (.int x5), .val (.int x6), .val (.int (5 : Int32)), .val (.int ((x1 &&& (255 : Int32)).toUInt32.toUInt16.toUInt32.toInt32)), .val (.int ((x2 &&& (255 : Int32)).toUInt32.toUInt16.toUInt32.toInt32)), .val (.int ((x3 &&& (255 : Int32)).toUInt32.toUInt16.toUInt32.toInt32)), .val (.int ((x4 &&& (255 : Int32)).toUInt32.toUInt16.toUInt32.toInt32)), .val (.int ((x5 &&& (255 : Int32)).toUInt32.toUInt16.toUInt32.toInt32)), .val (.ref sa), .val (.int (0 : Int32))] [(.ref sa)]))
    refine callStatic GoW.of X17 hx hZ (y := (⟨"com/example/ddos_fee_ledger/ddosfeeledger/Money", "isCurrency", "(Ljava/lang/String;)Z"⟩ : MethodName)) (argsL := [(.ref sa)]) hown (hw _ (List.mem_of_getElem? (i := 38) rfl)) (hw _ (List.mem_of_getElem? (i := 39) rfl)) (hw _ (List.mem_of_getElem? (i := 40) rfl)) (hw _ (List.mem_of_getElem? (i := 41) rfl)) (by decide) 0 rfl (rm9_5 l Z a0 hw sa d kd0 gd0 cs T17.heap n0 Zs Od E_sa F_sa_value F_sa_coder A_d Scs hcs) (by decide) (by decide) (by decide) (by decide) (g := (mkF m 107 #[.val (.int x1), .val (.int x2), .val (.int x3), .val (.int x4), .val (.int x5), .val (.int x6), .val (.int (5 : Int32)), .val (.int ((x1 &&& (255 : Int32)).toUInt32.toUInt16.toUInt32.toInt32)), .val (.int ((x2 &&& (255 : Int32)).toUInt32.toUInt16.toUInt32.toInt32)), .val (.int ((x3 &&& (255 : Int32)).toUInt32.toUInt16.toUInt32.toInt32)), .val (.int ((x4 &&& (255 : Int32)).toUInt32.toUInt16.toUInt32.toInt32)), .val (.int ((x5 &&& (255 : Int32)).toUInt32.toUInt16.toUInt32.toInt32)), .val (.ref sa), .val (.int (0 : Int32))] [(.ref sa)])) rfl (by rw [hml]; rfl) (rest := []) (lenOf pd17 rfl) rfl (by show 2 * 0 + _ ≤ _; exact Nat.le_of_eq rfl) (hb hby at_107) ?_
    intro T18 v18 L18 X18 q18
    obtain ⟨rfl, Nq18, e18⟩ := q18
    have N18 := Fr.app N17 Nq18
    show GoW _ _ _ _ _ _ _ (T18.setTop (mkF m 110 #[.val (.int x1), .val (.int x2), .val (.int x3), .val (.int x4), .val (.int x5), .val (.int x6), .val (.int (5 : Int32)), .val (.int ((x1 &&& (255 : Int32)).toUInt32.toUInt16.toUInt32.toInt32)), .val (.int ((x2 &&& (255 : Int32)).toUInt32.toUInt16.toUInt32.toInt32)), .val (.int ((x3 &&& (255 : Int32)).toUInt32.toUInt16.toUInt32.toInt32)), .val (.int ((x4 &&& (255 : Int32)).toUInt32.toUInt16.toUInt32.toInt32)), .val (.int ((x5 &&& (255 : Int32)).toUInt32.toUInt16.toUInt32.toInt32)), .val (.ref sa), .val (.int (0 : Int32))] [(.int (0 : Int32))]))
    refine GoW.of (fun _ q => XS.iload X18.here hx rfl (hb hby at_110) rfl q) ?_
    show GoW _ _ _ _ _ _ _ (T18.setTop (mkF m 112 #[.val (.int x1), .val (.int x2), .val (.int x3), .val (.int x4), .val (.int x5), .val (.int x6), .val (.int (5 : Int32)), .val (.int ((x1 &&& (255 : Int32)).toUInt32.toUInt16.toUInt32.toInt32)), .val (.int ((x2 &&& (255 : Int32)).toUInt32.toUInt16.toUInt32.toInt32)), .val (.int ((x3 &&& (255 : Int32)).toUInt32.toUInt16.toUInt32.toInt32)), .val (.int ((x4 &&& (255 : Int32)).toUInt32.toUInt16.toUInt32.toInt32)), .val (.int ((x5 &&& (255 : Int32)).toUInt32.toUInt16.toUInt32.toInt32)), .val (.ref sa), .val (.int (0 : Int32))] [(.int (0 : Int32)), (.int (0 : Int32))]))
    refine GoW.of (fun _ q => XS.icmpNo X18.here hx rfl (hb hby at_112) rfl (teq rfl).2 q) ?_
    show GoW _ _ _ _ _ _ _ (T18.setTop (mkF m 115 #[.val (.int x1), .val (.int x2), .val (.int x3), .val (.int x4), .val (.int x5), .val (.int x6), .val (.int (5 : Int32)), .val (.int ((x1 &&& (255 : Int32)).toUInt32.toUInt16.toUInt32.toInt32)), .val (.int ((x2 &&& (255 : Int32)).toUInt32.toUInt16.toUInt32.toInt32)), .val (.int ((x3 &&& (255 : Int32)).toUInt32.toUInt16.toUInt32.toInt32)), .val (.int ((x4 &&& (255 : Int32)).toUInt32.toUInt16.toUInt32.toInt32)), .val (.int ((x5 &&& (255 : Int32)).toUInt32.toUInt16.toUInt32.toInt32)), .val (.ref sa), .val (.int (0 : Int32))] []))
    refine GoW.of (fun _ q => XS.iconst X18.here hx rfl (hb hby at_115) q) ?_
    show GoW _ _ _ _ _ _ _ (T18.setTop (mkF m 116 #[.val (.int x1), .val (.int x2), .val (.int x3), .val (.int x4), .val (.int x5), .val (.int x6), .val (.int (5 : Int32)), .val (.int ((x1 &&& (255 : Int32)).toUInt32.toUInt16.toUInt32.toInt32)), .val (.int ((x2 &&& (255 : Int32)).toUInt32.toUInt16.toUInt32.toInt32)), .val (.int ((x3 &&& (255 : Int32)).toUInt32.toUInt16.toUInt32.toInt32)), .val (.int ((x4 &&& (255 : Int32)).toUInt32.toUInt16.toUInt32.toInt32)), .val (.int ((x5 &&& (255 : Int32)).toUInt32.toUInt16.toUInt32.toInt32)), .val (.ref sa), .val (.int (0 : Int32))] [(.int (1 : Int32))]))
    refine GoW.of (fun _ q => XS.goto X18.here hx rfl (pc0 := 116) (pc' := 120) rfl (hb hby at_116) (by decide) (by decide) q) ?_
    show GoW _ _ _ _ _ _ _ (T18.setTop (mkF m 120 #[.val (.int x1), .val (.int x2), .val (.int x3), .val (.int x4), .val (.int x5), .val (.int x6), .val (.int (5 : Int32)), .val (.int ((x1 &&& (255 : Int32)).toUInt32.toUInt16.toUInt32.toInt32)), .val (.int ((x2 &&& (255 : Int32)).toUInt32.toUInt16.toUInt32.toInt32)), .val (.int ((x3 &&& (255 : Int32)).toUInt32.toUInt16.toUInt32.toInt32)), .val (.int ((x4 &&& (255 : Int32)).toUInt32.toUInt16.toUInt32.toInt32)), .val (.int ((x5 &&& (255 : Int32)).toUInt32.toUInt16.toUInt32.toInt32)), .val (.ref sa), .val (.int (0 : Int32))] [(.int (1 : Int32))]))
    refine GoW.retN X18 hS (by rw [e18]; exact hk) hx hlk (t := .boolean) hret (by simp) (hb hby at_120) rfl (by decide) (by decide) ?_
    rw [e18]
    exact ⟨rfl, N18⟩
set_option maxRecDepth 65536 in
set_option maxHeartbeats 40000000 in
theorem comes_1 {Post : Tables → Env → Array Value → State → Outcome → State → Prop} (hpost : ∀ tb e args s v u, (limb_1_1.after args s (.returned v) u = true ∧ limb_1_2.after args s (.returned v) u = true ∧ True) → ReturnedEndW s (.returned v) u (Jvm.fieldLocs frame_1_writes args s ++ Jvm.arrayLocs frame_1_arrays args s ++ Jvm.staticLocs frame_1_statics s) 16 1152 → Post tb e args s (.returned v) u) :
    ArmFor flags0 classFile x code maxLocals ret World_1 tables_1 room_1 Calls_1 rest_1 Pre_1 Post := by
  intro l hfl _ _ p e ha hc hk s m args below hf hA hF happ hP
  obtain ⟨hcalls, hrest, hpre⟩ := hP
  obtain ⟨-, -, -, hnamed, -, -, -, hat⟩ := (Spec.applies_iff hf).mp happ
  obtain ⟨hg, hn⟩ := and_e (Cond.before_iff.mp (show (Jvm.Cond.and given_1 narrow_1).before args s = true from hpre))
  obtain ⟨g1, g2⟩ := and_e hg
  obtain ⟨g3, g4⟩ := and_e g2
  obtain ⟨g5, g6⟩ := and_e g4
  obtain ⟨g7, g8⟩ := and_e g6
  obtain ⟨g9, g10⟩ := and_e g8
  obtain ⟨g11, g12⟩ := and_e g10
  obtain ⟨w0, w1, w2, w3, w4, w5, rfl⟩ : ∃ w0 w1 w2 w3 w4 w5 : Value, args = #[w0, w1, w2, w3, w4, w5] := by
    have hs : args.size = 6 := by simpa [Cond.value, given_1] using g1
    obtain ⟨L⟩ := args
    match L, hs with
    | [w0, w1, w2, w3, w4, w5], _ => exact ⟨w0, w1, w2, w3, w4, w5, rfl⟩
  have hw := fun d (hd : d ∈ tables_1) => atoms_spec (ws := Jvm.Cond.code x code maxLocals ret :: tables_1) hat d (List.mem_cons_of_mem _ hd)
  have hfit : Fit s := fun {y c} hc i hi => by
    obtain ⟨ha, rfl⟩ := Array.getElem?_eq_some_iff.mp hc
    have q := List.all_eq_true.mp ((Array.all_eq_true_iff_forall_mem.mp hF) _ (Array.getElem_mem ha)) i (List.mem_range.mpr hi)
    simpa [Array.getElem?_eq_getElem hi] using q
  obtain ⟨hsets, hown0⟩ := atoms_of _ (rest_1_c_eq ▸ (show rest_1_c.before _ s = true from hrest))
  have hr0 := Cond.before_iff.mp hown0
  obtain ⟨i0, ei0⟩ := is_v g3
  obtain rfl : w0 = (.int i0) := Option.some.inj ei0
  obtain ⟨i1, ei1⟩ := is_v g5
  obtain rfl : w1 = (.int i1) := Option.some.inj ei1
  obtain ⟨i2, ei2⟩ := is_v g7
  obtain rfl : w2 = (.int i2) := Option.some.inj ei2
  obtain ⟨i3, ei3⟩ := is_v g9
  obtain rfl : w3 = (.int i3) := Option.some.inj ei3
  obtain ⟨i4, ei4⟩ := is_v g11
  obtain rfl : w4 = (.int i4) := Option.some.inj ei4
  obtain ⟨i5, ei5⟩ := is_v g12
  obtain rfl : w5 = (.int i5) := Option.some.inj ei5
  obtain ⟨cs, ecs⟩ := is_v (Cond.before_iff.mp (hsets _ (List.mem_of_getElem? (i := 1) rfl)))
  have Scs := Sta.start ecs (Or.inl (hsets _ (List.mem_of_getElem? (i := 0) rfl)))
  have hcs := eqi_no (Cond.before_iff.mp (hsets _ (List.mem_of_getElem? (i := 2) rfl))) ecs
  obtain ⟨fm, efm, hfm⟩ := ref_v (Cond.before_iff.mp (hsets _ (List.mem_of_getElem? (i := 8) rfl)))
  have Sfm := Sta.start efm (Or.inl (hsets _ (List.mem_of_getElem? (i := 7) rfl)))
  have hheld : Jvm.Lit.constHeld s "java/lang/String" 7 := (show Jvm.Lit.constsHeld consts_1 s from hcalls.1) _ (List.Mem.head _)
  obtain ⟨n, o, h1, h2, h3, _, L, rfl, ⟨rfl, N⟩, hq⟩ := rm0 l s _ hw i0 i1 i2 i3 i4 i5 cs fm hfm s.heap s.heap.size (Nat.le_refl _) (Old.start s) Scs hcs Sfm hheld (hsets _ (List.mem_of_getElem? (i := 2) rfl)) tables_1 p e ha hc hk s m _ below hf ((Spec.applies_iff_loose hf).mp happ).1 ⟨rfl, State.Warmed39.refl s, rfl, rfl⟩ trivial
  refine ⟨n, _, h1, h2, h3, hpost _ _ _ _ _ _ ⟨Cond.after_iff.mpr rfl, Cond.after_iff.mpr (eq_i res_at (Term.int_eval (1)) rfl), trivial⟩ ⟨hq.1, hq.2.1, hq.2.2.1, (hq.2.2.2.sift fun y hy => Or.inr (N y hy)).mono (by decide) (by decide)⟩⟩
theorem main_1_1 : Claimed_1_1 := comes_1 fun _ _ _ _ _ _ h hF => ⟨h.1, hF⟩
theorem main_1_2 : Claimed_1_2 := comes_1 fun _ _ _ _ _ _ h hF => ⟨h.2.1, hF⟩
end Jvm.Pilot.@@N@@
namespace Jvm.Pilot.@@N@@
open Jvm Jvm.ClassFile Sem Op Lib Jvm.Free Jvm.Stand Jvm.Pilot.@@N@@.Jvm.D
/-! MADE BY PROGRAM (witnessworld.py) out of the Statement's table words and the real class files: 21 classes; the members and pool entries that the words name. The judged class is class 1, her method 3. -/
namespace start1
open Jvm.ClassFile
def u (s : String) : CpInfo := .utf8 (stringToUtf16 s)
/-- a pool by its gaps: so many unusable entries, then the entry; so many at the end -/
def gap : Nat → List CpInfo → List CpInfo
  | 0, r => r
  | n + 1, r => .unusable :: gap n r
def poolList (es : List (Nat × CpInfo)) (last : Nat) : List CpInfo := es.foldr (fun e r => gap e.1 (e.2 :: r)) (gap last [])
def pool (es : List (Nat × CpInfo)) (last : Nat) : Array CpInfo := ⟨poolList es last⟩
def fileOf (pool : Array CpInfo) (this : Nat) (attrs : Array Attribute := #[]) (ms : Array MethodInfo := #[]) (fl : Nat := 33) (sup : Nat := 0) (ifs : Array Nat := #[]) (fds : Array FieldInfo := #[]) : ClassFile where
  minorVersion := 0
  majorVersion := 65
  constantPool := pool
  accessFlags := fl
  thisClass := this
  superClass := sup
  interfaces := ifs
  fields := fds
  methods := ms
  attributes := attrs
def plain (name : String) (sup : Option ClassId) : Class where
  name := name
  kind := .ordinary
  loader := none
  accessFlags := 33
  super := sup
  interfaces := #[]
  cf := none
  fields := #[]
  methods := #[]
  instanceTypes := #[]
  staticTypes := #[]
  resolved := #[]
  callSites := []
  init := .initialized
  statics := none
  mirror := none

def pool0 : Array CpInfo := pool [(5, u "<init>"), (0, u "()V"), (1, .class_ 10), (1, u "java/lang/Object")] 113

def k0c0 : Code := { maxStack := 0, maxLocals := 1, code := object_method_1_code, exceptionTable := #[], attributes := #[] }
def k0m0 : Method := { name := "<init>", desc := "()V", sig := { parameters := [], returnType := none }, accessFlags := 1, code := some k0c0 }
/-- java/lang/Object -/
def k0 : Class := { plain "java/lang/Object" none with
  accessFlags := 33
  interfaces := #[]
  cf := some (fileOf pool0 8 #[] #[{ accessFlags := 1, nameIndex := 5, descriptorIndex := 6, attributes := #[] }] 33 0 #[] #[])
  fields := #[]
  methods := #[k0m0]
  instanceTypes := #[]
  staticTypes := #[]
  resolved := Array.replicate 124 none
  statics := none }

def pool1 : Array CpInfo := pool [(2, .class_ 4), (1, u "java/lang/Object"), (0, u "<init>"), (0, u "()V"), (0, .class_ 8), (0, u "java/lang/String"), (0, .methodref 7 10), (0, .nameAndType 5 11), (0, u "([C)V"), (0, .methodref 7 13), (0, .nameAndType 14 15), (0, u "valueOf"), (0, u "(C)Ljava/lang/String;"), (0, .integer 2147483647), (0, .methodref 18 19), (0, .class_ 20), (0, .nameAndType 21 22), (0, u "com/example/ddos_fee_ledger/ddosfeeledger/MoneyIsCurrencyPinLaw"), (0, u "make"), (0, u "(ICCCCC)Ljava/lang/String;"), (0, .methodref 18 24), (0, .nameAndType 25 26), (0, u "upper"), (0, u "(C)Z"), (0, .methodref 28 29), (0, .class_ 30), (0, .nameAndType 31 32), (0, u "com/example/ddos_fee_ledger/ddosfeeledger/Money"), (0, u "isCurrency"), (0, u "(Ljava/lang/String;)Z"), (3, u "law"), (0, u "(IIIIII)Z")] 2

def k1m0 : Method := { name := "<init>", desc := "()V", sig := { parameters := [], returnType := none }, accessFlags := 1, code := none }
def k1c1 : Code := { maxStack := 2, maxLocals := 1, code := method_2_code, exceptionTable := #[], attributes := #[] }
def k1m1 : Method := { name := "upper", desc := "(C)Z", sig := { parameters := [.char], returnType := some .boolean }, accessFlags := 10, code := some k1c1 }
def k1c2 : Code := { maxStack := 6, maxLocals := 6, code := method_3_code, exceptionTable := #[], attributes := #[] }
def k1m2 : Method := { name := "make", desc := "(ICCCCC)Ljava/lang/String;", sig := { parameters := [.int, .char, .char, .char, .char, .char], returnType := some (.object "java/lang/String") }, accessFlags := 10, code := some k1c2 }
def k1c3 : Code := { maxStack := 6, maxLocals := 14, code := code, exceptionTable := #[], attributes := #[] }
def k1m3 : Method := { name := "law", desc := "(IIIIII)Z", sig := { parameters := [.int, .int, .int, .int, .int, .int], returnType := some .boolean }, accessFlags := 9, code := some k1c3 }
/-- com/example/ddos_fee_ledger/ddosfeeledger/MoneyIsCurrencyPinLaw -/
def k1 : Class := { plain "com/example/ddos_fee_ledger/ddosfeeledger/MoneyIsCurrencyPinLaw" (some 0) with
  accessFlags := 49
  interfaces := #[]
  cf := some (fileOf pool1 18 #[] #[{ accessFlags := 1, nameIndex := 5, descriptorIndex := 6, attributes := #[] }, { accessFlags := 10, nameIndex := 25, descriptorIndex := 26, attributes := #[] }, { accessFlags := 10, nameIndex := 21, descriptorIndex := 22, attributes := #[] }, { accessFlags := 9, nameIndex := 36, descriptorIndex := 37, attributes := #[] }] 49 2 #[] #[])
  fields := #[]
  methods := #[k1m0, k1m1, k1m2, k1m3]
  instanceTypes := #[]
  staticTypes := #[]
  resolved := Array.replicate 40 none
  statics := none }

def pool2 : Array CpInfo := pool [(1, .class_ 2), (0, u "java/io/Serializable"), (0, .class_ 4), (0, u "java/lang/Object")] 2

/-- java/io/Serializable -/
def k2 : Class := { plain "java/io/Serializable" (some 0) with
  accessFlags := 1537
  interfaces := #[]
  cf := some (fileOf pool2 1 #[] #[] 1537 3 #[] #[])
  fields := #[]
  methods := #[]
  instanceTypes := #[]
  staticTypes := #[]
  resolved := Array.replicate 7 none
  statics := none }

def pool3 : Array CpInfo := pool [(1, .class_ 2), (0, u "java/lang/Comparable"), (0, .class_ 4), (0, u "java/lang/Object")] 7

/-- java/lang/Comparable -/
def k3 : Class := { plain "java/lang/Comparable" (some 0) with
  accessFlags := 1537
  interfaces := #[]
  cf := some (fileOf pool3 1 #[] #[] 1537 3 #[] #[])
  fields := #[]
  methods := #[]
  instanceTypes := #[]
  staticTypes := #[]
  resolved := Array.replicate 12 none
  statics := none }

def pool4 : Array CpInfo := pool [(2, .class_ 4), (1, u "java/lang/CharSequence"), (42, .class_ 48), (0, u "java/lang/CharSequence$1CodePointIterator"), (10, .class_ 60), (0, u "java/lang/CharSequence$1CharIterator"), (5, .class_ 67), (0, u "java/lang/Object")] 63

/-- java/lang/CharSequence -/
def k4 : Class := { plain "java/lang/CharSequence" (some 0) with
  accessFlags := 1537
  interfaces := #[]
  cf := some (fileOf pool4 2 #[.nestMembers #[47, 59]] #[] 1537 66 #[] #[])
  fields := #[]
  methods := #[]
  instanceTypes := #[]
  staticTypes := #[]
  resolved := Array.replicate 131 none
  statics := none }

def pool5 : Array CpInfo := pool [(1, .class_ 2), (0, u "java/lang/constant/Constable"), (0, .class_ 4), (0, u "java/lang/Object")] 6

/-- java/lang/constant/Constable -/
def k5 : Class := { plain "java/lang/constant/Constable" (some 0) with
  accessFlags := 1537
  interfaces := #[]
  cf := some (fileOf pool5 1 #[] #[] 1537 3 #[] #[])
  fields := #[]
  methods := #[]
  instanceTypes := #[]
  staticTypes := #[]
  resolved := Array.replicate 11 none
  statics := none }

def pool6 : Array CpInfo := pool [(1, .class_ 2), (0, u "java/lang/constant/ConstantDesc"), (0, .class_ 4), (0, u "java/lang/Object")] 32

/-- java/lang/constant/ConstantDesc -/
def k6 : Class := { plain "java/lang/constant/ConstantDesc" (some 0) with
  accessFlags := 1537
  interfaces := #[]
  cf := some (fileOf pool6 1 #[] #[] 1537 3 #[] #[])
  fields := #[]
  methods := #[]
  instanceTypes := #[]
  staticTypes := #[]
  resolved := Array.replicate 37 none
  statics := none }

def pool7 : Array CpInfo := pool [(1, .methodref 2 3), (0, .class_ 4), (0, .nameAndType 5 6), (0, u "java/lang/Object"), (0, u "<init>"), (0, u "()V"), (0, .string 8), (0, u ""), (0, .fieldref 10 11), (0, .class_ 12), (0, .nameAndType 13 14), (0, u "java/lang/String"), (0, u "value"), (0, u "[B"), (0, .fieldref 10 16), (0, .nameAndType 17 18), (0, u "coder"), (0, u "B"), (2, u "hash"), (0, u "I"), (2, u "hashIsZero"), (0, u "Z"), (0, .methodref 10 28), (0, .nameAndType 5 29), (0, u "([CIILjava/lang/Void;)V"), (8, .fieldref 10 39), (0, .nameAndType 40 26), (0, u "COMPACT_STRINGS"), (1, .class_ 44), (1, u "java/lang/StringUTF16"), (0, u "compress"), (1, .methodref 42 48), (0, .nameAndType 49 50), (0, u "coderFromArrayLen"), (0, u "([BI)B"), (2, u "toBytes"), (53, .class_ 109), (1, u "java/lang/StringLatin1"), (32, u "()Z"), (34, .methodref 42 178), (0, .nameAndType 45 179), (0, u "([CII)[B"), (29, .methodref 10 210), (0, .nameAndType 5 211), (0, u "([BB)V"), (122, u "()I"), (0, .methodref 10 336), (0, .nameAndType 17 337), (0, u "()B"), (25, u "([BI)C"), (5, u "(C)Z"), (21, u "(II)V"), (35, u "(I)C"), (64, .methodref 10 493), (0, .nameAndType 494 142), (0, u "isLatin1"), (0, .methodref 107 496), (0, .nameAndType 497 363), (0, u "charAt"), (3, u "checkIndex"), (5, u "length"), (67, .class_ 576), (0, u "java/lang/CharSequence"), (22, u "CASE_INSENSITIVE_ORDER"), (0, u "Ljava/util/Comparator;"), (181, u "valueOf"), (0, u "(C)Ljava/lang/String;"), (226, u "([C)V"), (4, .methodref 107 1016), (0, .nameAndType 1017 369), (0, u "canEncode"), (0, .methodref 107 1019), (0, .nameAndType 53 1020), (0, u "(C)[B"), (32, .fieldref 1054 1055), (0, .class_ 1056), (0, .nameAndType 1057 1058), (0, u "jdk/internal/util/Preconditions"), (0, u "SIOOBE_FORMATTER"), (0, u "Ljava/util/function/BiFunction;"), (0, .methodref 1054 1060), (0, .nameAndType 501 1061), (0, u "(IILjava/util/function/BiFunction;)I"), (39, u "serialPersistentFields"), (0, u "[Ljava/io/ObjectStreamField;"), (0, .class_ 1104), (0, u "java/lang/String$CaseInsensitiveComparator"), (1, .class_ 1107), (0, u "java/io/Serializable"), (0, .class_ 1109), (0, u "java/lang/Comparable"), (0, .class_ 1111), (0, u "java/lang/constant/Constable"), (0, .class_ 1113), (0, u "java/lang/constant/ConstantDesc"), (2, u "serialVersionUID"), (0, u "J"), (3, u "REPL"), (0, u "C"), (2, u "LATIN1"), (1, u "UTF16")] 323

def k7m0 : Method := { name := "<init>", desc := "()V", sig := { parameters := [], returnType := none }, accessFlags := 1, code := none }
def k7c1 : Code := { maxStack := 5, maxLocals := 2, code := jdk_42_method_3_code, exceptionTable := #[], attributes := #[] }
def k7m1 : Method := { name := "<init>", desc := "([C)V", sig := { parameters := [(.array .char)], returnType := none }, accessFlags := 1, code := some k7c1 }
def k7c2 : Code := { maxStack := 2, maxLocals := 1, code := jdk_42_method_54_code, exceptionTable := #[], attributes := #[] }
def k7m2 : Method := { name := "length", desc := "()I", sig := { parameters := [], returnType := some .int }, accessFlags := 1, code := some k7c2 }
def k7c3 : Code := { maxStack := 2, maxLocals := 2, code := jdk_42_method_56_code, exceptionTable := #[], attributes := #[] }
def k7m3 : Method := { name := "charAt", desc := "(I)C", sig := { parameters := [.int], returnType := some .char }, accessFlags := 1, code := some k7c3 }
def k7c4 : Code := { maxStack := 4, maxLocals := 1, code := jdk_42_method_139_code, exceptionTable := #[], attributes := #[] }
def k7m4 : Method := { name := "valueOf", desc := "(C)Ljava/lang/String;", sig := { parameters := [.char], returnType := some (.object "java/lang/String") }, accessFlags := 9, code := some k7c4 }
def k7c5 : Code := { maxStack := 4, maxLocals := 6, code := jdk_42_method_149_code, exceptionTable := #[], attributes := #[] }
def k7m5 : Method := { name := "<init>", desc := "([CIILjava/lang/Void;)V", sig := { parameters := [(.array .char), .int, .int, (.object "java/lang/Void")], returnType := none }, accessFlags := 2, code := some k7c5 }
def k7c6 : Code := { maxStack := 2, maxLocals := 3, code := jdk_42_method_151_code, exceptionTable := #[], attributes := #[] }
def k7m6 : Method := { name := "<init>", desc := "([BB)V", sig := { parameters := [(.array .byte), .byte], returnType := none }, accessFlags := 0, code := some k7c6 }
def k7c7 : Code := { maxStack := 1, maxLocals := 1, code := jdk_42_method_152_code, exceptionTable := #[], attributes := #[] }
def k7m7 : Method := { name := "coder", desc := "()B", sig := { parameters := [], returnType := some .byte }, accessFlags := 0, code := some k7c7 }
def k7c8 : Code := { maxStack := 1, maxLocals := 1, code := jdk_42_method_154_code, exceptionTable := #[], attributes := #[] }
def k7m8 : Method := { name := "isLatin1", desc := "()Z", sig := { parameters := [], returnType := some .boolean }, accessFlags := 0, code := some k7c8 }
def k7c9 : Code := { maxStack := 3, maxLocals := 2, code := jdk_42_method_155_code, exceptionTable := #[], attributes := #[] }
def k7m9 : Method := { name := "checkIndex", desc := "(II)V", sig := { parameters := [.int, .int], returnType := none }, accessFlags := 8, code := some k7c9 }
/-- java/lang/String -/
def k7 : Class := { plain "java/lang/String" (some 0) with
  accessFlags := 49
  interfaces := #[2, 3, 4, 5, 6]
  cf := some (fileOf pool7 10 #[.nestMembers #[1103]] #[{ accessFlags := 1, nameIndex := 5, descriptorIndex := 6, attributes := #[] }, { accessFlags := 1, nameIndex := 5, descriptorIndex := 1010, attributes := #[] }, { accessFlags := 1, nameIndex := 507, descriptorIndex := 334, attributes := #[] }, { accessFlags := 1, nameIndex := 497, descriptorIndex := 427, attributes := #[] }, { accessFlags := 9, nameIndex := 782, descriptorIndex := 783, attributes := #[] }, { accessFlags := 2, nameIndex := 5, descriptorIndex := 29, attributes := #[] }, { accessFlags := 0, nameIndex := 5, descriptorIndex := 211, attributes := #[] }, { accessFlags := 0, nameIndex := 17, descriptorIndex := 337, attributes := #[] }, { accessFlags := 0, nameIndex := 494, descriptorIndex := 142, attributes := #[] }, { accessFlags := 8, nameIndex := 501, descriptorIndex := 391, attributes := #[] }] 49 2 #[1106, 1108, 575, 1110, 1112] #[{ accessFlags := 18, nameIndex := 13, descriptorIndex := 14, attributes := #[] }, { accessFlags := 18, nameIndex := 17, descriptorIndex := 18, attributes := #[] }, { accessFlags := 2, nameIndex := 21, descriptorIndex := 22, attributes := #[] }, { accessFlags := 2, nameIndex := 25, descriptorIndex := 26, attributes := #[] }, { accessFlags := 26, nameIndex := 1116, descriptorIndex := 1117, attributes := #[] }, { accessFlags := 24, nameIndex := 40, descriptorIndex := 26, attributes := #[] }, { accessFlags := 26, nameIndex := 1101, descriptorIndex := 1102, attributes := #[] }, { accessFlags := 26, nameIndex := 1121, descriptorIndex := 1122, attributes := #[] }, { accessFlags := 25, nameIndex := 599, descriptorIndex := 600, attributes := #[] }, { accessFlags := 24, nameIndex := 1125, descriptorIndex := 18, attributes := #[] }, { accessFlags := 24, nameIndex := 1127, descriptorIndex := 18, attributes := #[] }])
  fields := #[{ name := "value", type := (.array .byte), accessFlags := 18, slot := 0, constantValue := 0 }, { name := "coder", type := .byte, accessFlags := 18, slot := 1, constantValue := 0 }, { name := "hash", type := .int, accessFlags := 2, slot := 2, constantValue := 0 }, { name := "hashIsZero", type := .boolean, accessFlags := 2, slot := 3, constantValue := 0 }, { name := "serialVersionUID", type := .long, accessFlags := 26, slot := 0, constantValue := 0 }, { name := "COMPACT_STRINGS", type := .boolean, accessFlags := 24, slot := 1, constantValue := 0 }, { name := "serialPersistentFields", type := (.array (.object "java/io/ObjectStreamField")), accessFlags := 26, slot := 2, constantValue := 0 }, { name := "REPL", type := .char, accessFlags := 26, slot := 3, constantValue := 0 }, { name := "CASE_INSENSITIVE_ORDER", type := (.object "java/util/Comparator"), accessFlags := 25, slot := 4, constantValue := 0 }, { name := "LATIN1", type := .byte, accessFlags := 24, slot := 5, constantValue := 0 }, { name := "UTF16", type := .byte, accessFlags := 24, slot := 6, constantValue := 0 }]
  methods := #[k7m0, k7m1, k7m2, k7m3, k7m4, k7m5, k7m6, k7m7, k7m8, k7m9]
  instanceTypes := #[(.array .byte), .byte, .int, .boolean]
  staticTypes := #[.long, .boolean, (.array (.object "java/io/ObjectStreamField")), .char, (.object "java/util/Comparator"), .byte, .byte]
  resolved := Array.replicate 1451 none
  statics := some 0 }

def pool8 : Array CpInfo := pool [(6, .class_ 8), (1, u "java/lang/Object"), (0, u "<init>"), (0, u "()V"), (1, .class_ 14), (1, u "java/lang/StringUTF16"), (31, u "$assertionsDisabled"), (0, u "Z"), (13, u "HI_BYTE_SHIFT"), (0, u "I"), (2, u "LO_BYTE_SHIFT"), (49, .methodref 12 116), (0, .nameAndType 117 118), (0, u "compress"), (0, u "([CI[BII)I"), (3, u "([CII)[B"), (138, u "coderFromArrayLen"), (0, u "([BI)B"), (106, .class_ 371), (1, u "java/lang/StringUTF16$LinesSpliterator"), (58, u "MAX_LENGTH"), (196, .class_ 628), (0, u "java/lang/StringUTF16$CodePointsSpliterator"), (0, .class_ 630), (0, u "java/lang/StringUTF16$CharsSpliterator")] 4

def k8m0 : Method := { name := "<init>", desc := "()V", sig := { parameters := [], returnType := none }, accessFlags := 0, code := none }
def k8c1 : Code := { maxStack := 2, maxLocals := 2, code := jdk_52_method_15_code, exceptionTable := #[], attributes := #[] }
def k8m1 : Method := { name := "coderFromArrayLen", desc := "([BI)B", sig := { parameters := [(.array .byte), .int], returnType := some .byte }, accessFlags := 8, code := some k8c1 }
def k8c2 : Code := { maxStack := 5, maxLocals := 6, code := jdk_52_method_16_code, exceptionTable := #[], attributes := #[] }
def k8m2 : Method := { name := "compress", desc := "([CII)[B", sig := { parameters := [(.array .char), .int, .int], returnType := some (.array .byte) }, accessFlags := 9, code := some k8c2 }
def k8c3 : Code := { maxStack := 3, maxLocals := 7, code := jdk_52_method_21_code, exceptionTable := #[], attributes := #[] }
def k8m3 : Method := { name := "compress", desc := "([CI[BII)I", sig := { parameters := [(.array .char), .int, (.array .byte), .int, .int], returnType := some .int }, accessFlags := 9, code := some k8c3 }
/-- java/lang/StringUTF16 -/
def k8 : Class := { plain "java/lang/StringUTF16" (some 0) with
  accessFlags := 48
  interfaces := #[]
  cf := some (fileOf pool8 12 #[.nestMembers #[627, 629, 369]] #[{ accessFlags := 0, nameIndex := 9, descriptorIndex := 10, attributes := #[] }, { accessFlags := 8, nameIndex := 261, descriptorIndex := 262, attributes := #[] }, { accessFlags := 9, nameIndex := 117, descriptorIndex := 122, attributes := #[] }, { accessFlags := 9, nameIndex := 117, descriptorIndex := 118, attributes := #[] }] 48 6 #[] #[{ accessFlags := 26, nameIndex := 61, descriptorIndex := 62, attributes := #[] }, { accessFlags := 26, nameIndex := 65, descriptorIndex := 62, attributes := #[] }, { accessFlags := 24, nameIndex := 430, descriptorIndex := 62, attributes := #[] }, { accessFlags := 4120, nameIndex := 46, descriptorIndex := 47, attributes := #[] }])
  fields := #[{ name := "HI_BYTE_SHIFT", type := .int, accessFlags := 26, slot := 0, constantValue := 0 }, { name := "LO_BYTE_SHIFT", type := .int, accessFlags := 26, slot := 1, constantValue := 0 }, { name := "MAX_LENGTH", type := .int, accessFlags := 24, slot := 2, constantValue := 0 }, { name := "$assertionsDisabled", type := .boolean, accessFlags := 4120, slot := 3, constantValue := 0 }]
  methods := #[k8m0, k8m1, k8m2, k8m3]
  instanceTypes := #[]
  staticTypes := #[.int, .int, .int, .boolean]
  resolved := Array.replicate 635 none
  statics := none }

def pool9 : Array CpInfo := pool [(2, .class_ 4), (1, u "java/lang/Object"), (0, u "<init>"), (0, u "()V"), (0, .class_ 8), (0, u "java/lang/Record")] 13

def k9m0 : Method := { name := "<init>", desc := "()V", sig := { parameters := [], returnType := none }, accessFlags := 4, code := none }
/-- java/lang/Record -/
def k9 : Class := { plain "java/lang/Record" (some 0) with
  accessFlags := 1057
  interfaces := #[]
  cf := some (fileOf pool9 7 #[] #[{ accessFlags := 4, nameIndex := 5, descriptorIndex := 6, attributes := #[] }] 1057 2 #[] #[])
  fields := #[]
  methods := #[k9m0]
  instanceTypes := #[]
  staticTypes := #[]
  resolved := Array.replicate 22 none
  statics := none }

def pool10 : Array CpInfo := pool [(2, .class_ 4), (1, u "java/lang/Record"), (2, .class_ 8), (0, u "com/example/ddos_fee_ledger/ddosfeeledger/Money"), (14, u "currency"), (0, u "Ljava/lang/String;"), (2, u "amount"), (0, u "Ljava/math/BigDecimal;"), (6, .methodref 36 37), (0, .class_ 38), (0, .nameAndType 39 40), (0, u "java/lang/String"), (0, u "length"), (0, u "()I"), (10, .methodref 36 52), (0, .nameAndType 53 54), (0, u "charAt"), (0, u "(I)C"), (2, u "isCurrency"), (0, u "(Ljava/lang/String;)Z"), (48, u "DECIMALS"), (0, u "I")] 42

def k10c0 : Code := { maxStack := 2, maxLocals := 3, code := prog_43_method_4_code, exceptionTable := #[], attributes := #[] }
def k10m0 : Method := { name := "isCurrency", desc := "(Ljava/lang/String;)Z", sig := { parameters := [(.object "java/lang/String")], returnType := some .boolean }, accessFlags := 8, code := some k10c0 }
/-- com/example/ddos_fee_ledger/ddosfeeledger/Money -/
def k10 : Class := { plain "com/example/ddos_fee_ledger/ddosfeeledger/Money" (some 9) with
  accessFlags := 49
  interfaces := #[]
  cf := some (fileOf pool10 7 #[] #[{ accessFlags := 8, nameIndex := 57, descriptorIndex := 58, attributes := #[] }] 49 2 #[] #[{ accessFlags := 18, nameIndex := 23, descriptorIndex := 24, attributes := #[] }, { accessFlags := 18, nameIndex := 27, descriptorIndex := 28, attributes := #[] }, { accessFlags := 24, nameIndex := 107, descriptorIndex := 108, attributes := #[] }])
  fields := #[{ name := "currency", type := (.object "java/lang/String"), accessFlags := 18, slot := 0, constantValue := 0 }, { name := "amount", type := (.object "java/math/BigDecimal"), accessFlags := 18, slot := 1, constantValue := 0 }, { name := "DECIMALS", type := .int, accessFlags := 24, slot := 0, constantValue := 0 }]
  methods := #[k10m0]
  instanceTypes := #[(.object "java/lang/String"), (.object "java/math/BigDecimal")]
  staticTypes := #[.int]
  resolved := Array.replicate 151 none
  statics := none }

def pool11 : Array CpInfo := pool [(1, .class_ 2), (0, u "java/lang/String"), (1, .class_ 6), (1, u "java/lang/Object"), (0, u "<init>"), (0, u "()V"), (0, .methodref 1 10), (0, .nameAndType 11 12), (0, u "checkIndex"), (0, u "(II)V"), (1, .class_ 16), (1, u "java/lang/StringLatin1"), (36, u "([BI)C"), (36, u "canEncode"), (14, u "(C)Z"), (15, u "$assertionsDisabled"), (0, u "Z"), (98, .class_ 223), (1, u "java/lang/StringLatin1$LinesSpliterator"), (28, u "charAt"), (127, u "toBytes"), (1, u "(C)[B"), (7, .class_ 391), (0, u "java/lang/StringLatin1$CharsSpliterator")] 3

def k11m0 : Method := { name := "<init>", desc := "()V", sig := { parameters := [], returnType := none }, accessFlags := 0, code := none }
def k11c1 : Code := { maxStack := 2, maxLocals := 2, code := jdk_43_method_2_code, exceptionTable := #[], attributes := #[] }
def k11m1 : Method := { name := "charAt", desc := "([BI)C", sig := { parameters := [(.array .byte), .int], returnType := some .char }, accessFlags := 9, code := some k11c1 }
def k11c2 : Code := { maxStack := 2, maxLocals := 1, code := jdk_43_method_3_code, exceptionTable := #[], attributes := #[] }
def k11m2 : Method := { name := "canEncode", desc := "(C)Z", sig := { parameters := [.char], returnType := some .boolean }, accessFlags := 9, code := some k11c2 }
def k11c3 : Code := { maxStack := 4, maxLocals := 1, code := jdk_43_method_46_code, exceptionTable := #[], attributes := #[] }
def k11m3 : Method := { name := "toBytes", desc := "(C)[B", sig := { parameters := [.char], returnType := some (.array .byte) }, accessFlags := 9, code := some k11c3 }
/-- java/lang/StringLatin1 -/
def k11 : Class := { plain "java/lang/StringLatin1" (some 0) with
  accessFlags := 48
  interfaces := #[]
  cf := some (fileOf pool11 14 #[.nestMembers #[390, 221]] #[{ accessFlags := 0, nameIndex := 7, descriptorIndex := 8, attributes := #[] }, { accessFlags := 9, nameIndex := 252, descriptorIndex := 53, attributes := #[] }, { accessFlags := 9, nameIndex := 90, descriptorIndex := 105, attributes := #[] }, { accessFlags := 9, nameIndex := 380, descriptorIndex := 382, attributes := #[] }] 48 4 #[] #[{ accessFlags := 4120, nameIndex := 121, descriptorIndex := 122, attributes := #[] }])
  fields := #[{ name := "$assertionsDisabled", type := .boolean, accessFlags := 4120, slot := 0, constantValue := 0 }]
  methods := #[k11m0, k11m1, k11m2, k11m3]
  instanceTypes := #[]
  staticTypes := #[.boolean]
  resolved := Array.replicate 395 none
  statics := none }

def pool12 : Array CpInfo := pool [(2, .class_ 4), (1, u "java/lang/Object"), (0, u "<init>"), (0, u "()V"), (17, .class_ 26), (1, u "jdk/internal/util/Preconditions"), (6, u "checkIndex"), (21, .class_ 56), (0, u "jdk/internal/util/Preconditions$4"), (57, .class_ 115), (0, u "jdk/internal/util/Preconditions$1"), (7, u "SIOOBE_FORMATTER"), (0, u "Ljava/util/function/BiFunction;"), (0, .class_ 126), (0, u "jdk/internal/util/Preconditions$2"), (3, u "AIOOBE_FORMATTER"), (0, .class_ 132), (0, u "jdk/internal/util/Preconditions$3"), (3, u "IOOBE_FORMATTER"), (41, u "(IILjava/util/function/BiFunction;)I")] 15

def k12m0 : Method := { name := "<init>", desc := "()V", sig := { parameters := [], returnType := none }, accessFlags := 1, code := none }
def k12c1 : Code := { maxStack := 3, maxLocals := 3, code := jdk_41_method_11_code, exceptionTable := #[], attributes := #[] }
def k12m1 : Method := { name := "checkIndex", desc := "(IILjava/util/function/BiFunction;)I", sig := { parameters := [.int, .int, (.object "java/util/function/BiFunction")], returnType := some .int }, accessFlags := 9, code := some k12c1 }
/-- jdk/internal/util/Preconditions -/
def k12 : Class := { plain "jdk/internal/util/Preconditions" (some 0) with
  accessFlags := 33
  interfaces := #[]
  cf := some (fileOf pool12 24 #[.nestMembers #[55, 131, 125, 114]] #[{ accessFlags := 1, nameIndex := 5, descriptorIndex := 6, attributes := #[] }, { accessFlags := 9, nameIndex := 33, descriptorIndex := 178, attributes := #[] }] 33 2 #[] #[{ accessFlags := 25, nameIndex := 123, descriptorIndex := 124, attributes := #[] }, { accessFlags := 25, nameIndex := 130, descriptorIndex := 124, attributes := #[] }, { accessFlags := 25, nameIndex := 136, descriptorIndex := 124, attributes := #[] }])
  fields := #[{ name := "SIOOBE_FORMATTER", type := (.object "java/util/function/BiFunction"), accessFlags := 25, slot := 0, constantValue := 0 }, { name := "AIOOBE_FORMATTER", type := (.object "java/util/function/BiFunction"), accessFlags := 25, slot := 1, constantValue := 0 }, { name := "IOOBE_FORMATTER", type := (.object "java/util/function/BiFunction"), accessFlags := 25, slot := 2, constantValue := 0 }]
  methods := #[k12m0, k12m1]
  instanceTypes := #[]
  staticTypes := #[(.object "java/util/function/BiFunction"), (.object "java/util/function/BiFunction"), (.object "java/util/function/BiFunction")]
  resolved := Array.replicate 194 none
  statics := some 1 }

def pool13 : Array CpInfo := pool [(9, u "<init>"), (6, .class_ 18), (1, u "java/lang/Object"), (0, u "()V"), (1, .class_ 23), (1, u "jdk/internal/util/ArraysSupport"), (0, u "LOG2_ARRAY_LONG_INDEX_SCALE"), (0, u "I"), (2, u "U"), (0, u "Ljdk/internal/misc/Unsafe;"), (8, u "BIG_ENDIAN"), (0, u "Z"), (8, u "LOG2_BYTE_BIT_SIZE"), (4, u "LOG2_ARRAY_INT_INDEX_SCALE"), (54, u "JLA"), (0, u "Ljdk/internal/access/JavaLangAccess;"), (11, u "LOG2_ARRAY_BOOLEAN_INDEX_SCALE"), (9, u "LOG2_ARRAY_BYTE_INDEX_SCALE"), (5, u "LOG2_ARRAY_CHAR_INDEX_SCALE"), (5, u "LOG2_ARRAY_SHORT_INDEX_SCALE"), (18, u "LOG2_ARRAY_FLOAT_INDEX_SCALE"), (24, u "LOG2_ARRAY_DOUBLE_INDEX_SCALE"), (89, u "T_BOOLEAN"), (2, u "T_CHAR"), (1, u "T_FLOAT"), (1, u "T_DOUBLE"), (1, u "T_BYTE"), (1, u "T_SHORT"), (1, u "T_INT"), (1, u "T_LONG"), (1, u "SOFT_MAX_ARRAY_LENGTH")] 83

def k13m0 : Method := { name := "<init>", desc := "()V", sig := { parameters := [], returnType := none }, accessFlags := 2, code := none }
/-- jdk/internal/util/ArraysSupport -/
def k13 : Class := { plain "jdk/internal/util/ArraysSupport" (some 0) with
  accessFlags := 33
  interfaces := #[]
  cf := some (fileOf pool13 21 #[] #[{ accessFlags := 2, nameIndex := 9, descriptorIndex := 19, attributes := #[] }] 33 16 #[] #[{ accessFlags := 24, nameIndex := 28, descriptorIndex := 29, attributes := #[] }, { accessFlags := 26, nameIndex := 38, descriptorIndex := 39, attributes := #[] }, { accessFlags := 25, nameIndex := 121, descriptorIndex := 25, attributes := #[] }, { accessFlags := 25, nameIndex := 131, descriptorIndex := 25, attributes := #[] }, { accessFlags := 25, nameIndex := 137, descriptorIndex := 25, attributes := #[] }, { accessFlags := 25, nameIndex := 143, descriptorIndex := 25, attributes := #[] }, { accessFlags := 25, nameIndex := 53, descriptorIndex := 25, attributes := #[] }, { accessFlags := 25, nameIndex := 24, descriptorIndex := 25, attributes := #[] }, { accessFlags := 25, nameIndex := 162, descriptorIndex := 25, attributes := #[] }, { accessFlags := 25, nameIndex := 187, descriptorIndex := 25, attributes := #[] }, { accessFlags := 26, nameIndex := 48, descriptorIndex := 25, attributes := #[] }, { accessFlags := 25, nameIndex := 277, descriptorIndex := 25, attributes := #[] }, { accessFlags := 25, nameIndex := 280, descriptorIndex := 25, attributes := #[] }, { accessFlags := 25, nameIndex := 282, descriptorIndex := 25, attributes := #[] }, { accessFlags := 25, nameIndex := 284, descriptorIndex := 25, attributes := #[] }, { accessFlags := 25, nameIndex := 286, descriptorIndex := 25, attributes := #[] }, { accessFlags := 25, nameIndex := 288, descriptorIndex := 25, attributes := #[] }, { accessFlags := 25, nameIndex := 290, descriptorIndex := 25, attributes := #[] }, { accessFlags := 25, nameIndex := 292, descriptorIndex := 25, attributes := #[] }, { accessFlags := 26, nameIndex := 108, descriptorIndex := 109, attributes := #[] }, { accessFlags := 25, nameIndex := 294, descriptorIndex := 25, attributes := #[] }])
  fields := #[{ name := "U", type := (.object "jdk/internal/misc/Unsafe"), accessFlags := 24, slot := 0, constantValue := 0 }, { name := "BIG_ENDIAN", type := .boolean, accessFlags := 26, slot := 1, constantValue := 0 }, { name := "LOG2_ARRAY_BOOLEAN_INDEX_SCALE", type := .int, accessFlags := 25, slot := 2, constantValue := 0 }, { name := "LOG2_ARRAY_BYTE_INDEX_SCALE", type := .int, accessFlags := 25, slot := 3, constantValue := 0 }, { name := "LOG2_ARRAY_CHAR_INDEX_SCALE", type := .int, accessFlags := 25, slot := 4, constantValue := 0 }, { name := "LOG2_ARRAY_SHORT_INDEX_SCALE", type := .int, accessFlags := 25, slot := 5, constantValue := 0 }, { name := "LOG2_ARRAY_INT_INDEX_SCALE", type := .int, accessFlags := 25, slot := 6, constantValue := 0 }, { name := "LOG2_ARRAY_LONG_INDEX_SCALE", type := .int, accessFlags := 25, slot := 7, constantValue := 0 }, { name := "LOG2_ARRAY_FLOAT_INDEX_SCALE", type := .int, accessFlags := 25, slot := 8, constantValue := 0 }, { name := "LOG2_ARRAY_DOUBLE_INDEX_SCALE", type := .int, accessFlags := 25, slot := 9, constantValue := 0 }, { name := "LOG2_BYTE_BIT_SIZE", type := .int, accessFlags := 26, slot := 10, constantValue := 0 }, { name := "T_BOOLEAN", type := .int, accessFlags := 25, slot := 11, constantValue := 0 }, { name := "T_CHAR", type := .int, accessFlags := 25, slot := 12, constantValue := 0 }, { name := "T_FLOAT", type := .int, accessFlags := 25, slot := 13, constantValue := 0 }, { name := "T_DOUBLE", type := .int, accessFlags := 25, slot := 14, constantValue := 0 }, { name := "T_BYTE", type := .int, accessFlags := 25, slot := 15, constantValue := 0 }, { name := "T_SHORT", type := .int, accessFlags := 25, slot := 16, constantValue := 0 }, { name := "T_INT", type := .int, accessFlags := 25, slot := 17, constantValue := 0 }, { name := "T_LONG", type := .int, accessFlags := 25, slot := 18, constantValue := 0 }, { name := "JLA", type := (.object "jdk/internal/access/JavaLangAccess"), accessFlags := 26, slot := 19, constantValue := 0 }, { name := "SOFT_MAX_ARRAY_LENGTH", type := .int, accessFlags := 25, slot := 20, constantValue := 0 }]
  methods := #[k13m0]
  instanceTypes := #[]
  staticTypes := #[(.object "jdk/internal/misc/Unsafe"), .boolean, .int, .int, .int, .int, .int, .int, .int, .int, .int, .int, .int, .int, .int, .int, .int, .int, .int, (.object "jdk/internal/access/JavaLangAccess"), .int]
  resolved := Array.replicate 378 none
  statics := none }

def pool14 : Array CpInfo := pool [(1, u "java/lang/Cloneable"), (0, .class_ 1), (0, u "java/lang/Object"), (0, .class_ 3)] 3

/-- java/lang/Cloneable -/
def k14 : Class := { plain "java/lang/Cloneable" (some 0) with
  accessFlags := 1537
  interfaces := #[]
  cf := some (fileOf pool14 2 #[] #[] 1537 4 #[] #[])
  fields := #[]
  methods := #[]
  instanceTypes := #[]
  staticTypes := #[]
  resolved := Array.replicate 8 none
  statics := none }

/-- the primitive byte -/
def k15 : Class := { plain "byte" none with kind := .primitive 'B', accessFlags := 0x411 }
/-- [B -/
def k16 : Class := { plain "[B" (some 0) with kind := .array 15 .byte, interfaces := #[14, 2], accessFlags := 1041 }

/-- the primitive char -/
def k17 : Class := { plain "char" none with kind := .primitive 'C', accessFlags := 0x411 }
/-- [C -/
def k18 : Class := { plain "[C" (some 0) with kind := .array 17 .char, interfaces := #[14, 2], accessFlags := 1041 }

/-- the primitive int -/
def k19 : Class := { plain "int" none with kind := .primitive 'I', accessFlags := 0x411 }
/-- [I -/
def k20 : Class := { plain "[I" (some 0) with kind := .array 19 .int, interfaces := #[14, 2], accessFlags := 1041 }

def heap : Heap := #[{ cls := 7, slots := #[.long 0, .int 1, .null, .int 0, .null, .int 0, .int 0], vm := .statics 7 },
  { cls := 12, slots := #[.null, .null, .null], vm := .statics 12 }]
def classes : Array Class := #[k0, k1, k2, k3, k4, k5, k6, k7, k8, k9, k10, k11, k12, k13, k14, k15, k16, k17, k18, k19, k20]
def interned : List (Array UInt16 × Addr) := []
def slotsUsed : Nat := 10
def theMethod : MethodId := ⟨1, 3⟩
def args0 : Array Value := #[.int 5, .int 5, .int 5, .int 5, .int 5, .int 5]
def aboutOver (below : List Frame) : State where
  vm := { classes := classes, interned := interned.toArray }
  heap := heap
  slotsUsed := slotsUsed
  threads := #[{ frames := .invoking theMethod args0 :: below }]
def below0 : List Frame := [.native { method := ⟨0, 0⟩, args := #[] }]
def about1 : State := aboutOver below0
def p0 : Program := .bare "" "" ""
def e0 : Env := launch0.env 0 0 0
theorem w_frames : about1.frames = Frame.invoking theMethod args0 :: below0 := rfl
set_option maxRecDepth 65536 in
theorem w_args : argsFit about1.vm theMethod args0 = true := by decide +kernel
set_option maxRecDepth 65536 in
theorem w_heap : heapFits about1 = true := by decide +kernel
set_option maxRecDepth 65536 in
theorem w_runnable : about1.curStatus? = some .runnable := by decide +kernel
set_option maxRecDepth 65536 in
theorem w_alone : about1.alone = true := by decide +kernel
set_option maxRecDepth 65536 in
theorem w_named : about1.methodNamed? x = some theMethod := by decide +kernel
set_option maxRecDepth 65536 in
theorem w_hears : about1.hears theMethod below0 = true := by decide +kernel
set_option maxRecDepth 65536 in
theorem w_ripe : about1.ripe theMethod args0 below0 = true := by decide +kernel
theorem w_running : about1.status = .running := rfl
set_option maxRecDepth 65536 in
theorem w_room : about1.hasRoom e0.platform room_1 = true :=
  launch0.hasRoom_least _ room_1 (by decide +kernel) (by decide +kernel) (by decide +kernel) (by decide +kernel) (by decide +kernel) (by decide +kernel)
theorem allAtoms_all (ts : List Jvm.Cond) (a : Array Jvm.Value) (st : Jvm.State) : (allAtoms ts).before a st = ts.all (fun c => c.before a st) := by
  induction ts with
  | nil => rfl
  | cons c t ih =>
    show (Jvm.Cond.and c (allAtoms t)).before a st = _
    rw [Jvm.Cond.before_and, ih, List.all_cons]
def words1 : List Jvm.Cond := Jvm.Cond.code x code maxLocals ret :: tables_1
/-- a 'code' word, met by the world's own term for the bytes: nothing is compared byte by byte -/
theorem code_word {y : MethodName} {bytes : ByteArray} {mx : Nat} {rt : Option FieldType} {a : Array Value} {s : State} {m : MethodId} {meth : Method} {c : Code} (h1 : s.methodNamed? y = some m) (h2 : s.vm.method? m = some meth) (h3 : meth.code = some c) (h4 : c.code = bytes)
    (h5 : (c.maxLocals == mx && c.exceptionTable.isEmpty && decide (c.maxStack ≤ mostOperands) && decide (meth.sig.returnType = rt) && !meth.locks && decide (parseMethodDescriptor y.desc = some meth.sig)) = true) : (Jvm.Cond.code y bytes mx rt).before a s = true := by
  simp only [Bool.and_eq_true, beq_iff_eq, Bool.not_eq_true', decide_eq_true_eq] at h5
  obtain ⟨⟨⟨⟨⟨g1, g2⟩, g3⟩, g4⟩, g5⟩, g6⟩ := h5
  simp [Cond.before, Cond.holds, Cond.value, h1, h2, h3, h4, g1, g2, g3, g4, g5, g6]
def isCode : Jvm.Cond → Bool
  | .code _ _ _ _ => true
  | _ => false
theorem all_split {L : List Jvm.Cond} {P : Jvm.Cond → Bool} (h1 : L.all (fun c => isCode c || P c) = true) (h2 : ∀ c ∈ L.filter isCode, P c = true) : L.all P = true := by
  refine List.all_eq_true.mpr fun c hc => ?_
  have h := List.all_eq_true.mp h1 c hc
  rcases Bool.eq_false_or_eq_true (isCode c) with hi | hi
  · exact h2 c (List.mem_filter.mpr ⟨hc, hi⟩)
  · simpa [hi] using h
set_option maxRecDepth 65536 in
theorem w_c0 : (Jvm.Cond.code x code maxLocals ret).before args0 about1 = true := code_word (m := ⟨1, 3⟩) (meth := k1m3) (c := k1c3) (by decide +kernel) rfl rfl rfl (by decide +kernel)
set_option maxRecDepth 65536 in
theorem w_c1 : (Jvm.Cond.code ({ cls := "com/example/ddos_fee_ledger/ddosfeeledger/MoneyIsCurrencyPinLaw", name := "make", desc := "(ICCCCC)Ljava/lang/String;" } : Jvm.MethodName) method_3_code (6 : Nat) (Option.some (Jvm.ClassFile.FieldType.object "java/lang/String"))).before args0 about1 = true := code_word (m := ⟨1, 2⟩) (meth := k1m2) (c := k1c2) (by decide +kernel) rfl rfl rfl (by decide +kernel)
set_option maxRecDepth 65536 in
theorem w_c2 : (Jvm.Cond.code ({ cls := "java/lang/String", name := "<init>", desc := "([C)V" } : Jvm.MethodName) jdk_42_method_3_code (2 : Nat) (Option.none : Option Jvm.ClassFile.FieldType)).before args0 about1 = true := code_word (m := ⟨7, 1⟩) (meth := k7m1) (c := k7c1) (by decide +kernel) rfl rfl rfl (by decide +kernel)
set_option maxRecDepth 65536 in
theorem w_c3 : (Jvm.Cond.code ({ cls := "java/lang/String", name := "<init>", desc := "([CIILjava/lang/Void;)V" } : Jvm.MethodName) jdk_42_method_149_code (6 : Nat) (Option.none : Option Jvm.ClassFile.FieldType)).before args0 about1 = true := code_word (m := ⟨7, 5⟩) (meth := k7m5) (c := k7c5) (by decide +kernel) rfl rfl rfl (by decide +kernel)
set_option maxRecDepth 65536 in
theorem w_c4 : (Jvm.Cond.code ({ cls := "java/lang/Object", name := "<init>", desc := "()V" } : Jvm.MethodName) object_method_1_code (1 : Nat) (Option.none : Option Jvm.ClassFile.FieldType)).before args0 about1 = true := code_word (m := ⟨0, 0⟩) (meth := k0m0) (c := k0c0) (by decide +kernel) rfl rfl rfl (by decide +kernel)
set_option maxRecDepth 65536 in
theorem w_c5 : (Jvm.Cond.code ({ cls := "java/lang/StringUTF16", name := "compress", desc := "([CII)[B" } : Jvm.MethodName) jdk_52_method_16_code (6 : Nat) (Option.some (Jvm.ClassFile.FieldType.array Jvm.ClassFile.FieldType.byte))).before args0 about1 = true := code_word (m := ⟨8, 2⟩) (meth := k8m2) (c := k8c2) (by decide +kernel) rfl rfl rfl (by decide +kernel)
set_option maxRecDepth 65536 in
theorem w_c6 : (Jvm.Cond.code ({ cls := "java/lang/StringUTF16", name := "compress", desc := "([CI[BII)I" } : Jvm.MethodName) jdk_52_method_21_code (7 : Nat) (Option.some Jvm.ClassFile.FieldType.int)).before args0 about1 = true := code_word (m := ⟨8, 3⟩) (meth := k8m3) (c := k8c3) (by decide +kernel) rfl rfl rfl (by decide +kernel)
set_option maxRecDepth 65536 in
theorem w_c7 : (Jvm.Cond.code ({ cls := "java/lang/StringUTF16", name := "coderFromArrayLen", desc := "([BI)B" } : Jvm.MethodName) jdk_52_method_15_code (2 : Nat) (Option.some Jvm.ClassFile.FieldType.byte)).before args0 about1 = true := code_word (m := ⟨8, 1⟩) (meth := k8m1) (c := k8c1) (by decide +kernel) rfl rfl rfl (by decide +kernel)
set_option maxRecDepth 65536 in
theorem w_c8 : (Jvm.Cond.code ({ cls := "com/example/ddos_fee_ledger/ddosfeeledger/MoneyIsCurrencyPinLaw", name := "upper", desc := "(C)Z" } : Jvm.MethodName) method_2_code (1 : Nat) (Option.some Jvm.ClassFile.FieldType.boolean)).before args0 about1 = true := code_word (m := ⟨1, 1⟩) (meth := k1m1) (c := k1c1) (by decide +kernel) rfl rfl rfl (by decide +kernel)
set_option maxRecDepth 65536 in
theorem w_c9 : (Jvm.Cond.code ({ cls := "com/example/ddos_fee_ledger/ddosfeeledger/Money", name := "isCurrency", desc := "(Ljava/lang/String;)Z" } : Jvm.MethodName) prog_43_method_4_code (3 : Nat) (Option.some Jvm.ClassFile.FieldType.boolean)).before args0 about1 = true := code_word (m := ⟨10, 0⟩) (meth := k10m0) (c := k10c0) (by decide +kernel) rfl rfl rfl (by decide +kernel)
set_option maxRecDepth 65536 in
theorem w_c10 : (Jvm.Cond.code ({ cls := "java/lang/String", name := "length", desc := "()I" } : Jvm.MethodName) jdk_42_method_54_code (1 : Nat) (Option.some Jvm.ClassFile.FieldType.int)).before args0 about1 = true := code_word (m := ⟨7, 2⟩) (meth := k7m2) (c := k7c2) (by decide +kernel) rfl rfl rfl (by decide +kernel)
set_option maxRecDepth 65536 in
theorem w_c11 : (Jvm.Cond.code ({ cls := "java/lang/String", name := "coder", desc := "()B" } : Jvm.MethodName) jdk_42_method_152_code (1 : Nat) (Option.some Jvm.ClassFile.FieldType.byte)).before args0 about1 = true := code_word (m := ⟨7, 7⟩) (meth := k7m7) (c := k7c7) (by decide +kernel) rfl rfl rfl (by decide +kernel)
set_option maxRecDepth 65536 in
theorem w_c12 : (Jvm.Cond.code ({ cls := "java/lang/String", name := "charAt", desc := "(I)C" } : Jvm.MethodName) jdk_42_method_56_code (2 : Nat) (Option.some Jvm.ClassFile.FieldType.char)).before args0 about1 = true := code_word (m := ⟨7, 3⟩) (meth := k7m3) (c := k7c3) (by decide +kernel) rfl rfl rfl (by decide +kernel)
set_option maxRecDepth 65536 in
theorem w_c13 : (Jvm.Cond.code ({ cls := "java/lang/String", name := "isLatin1", desc := "()Z" } : Jvm.MethodName) jdk_42_method_154_code (1 : Nat) (Option.some Jvm.ClassFile.FieldType.boolean)).before args0 about1 = true := code_word (m := ⟨7, 8⟩) (meth := k7m8) (c := k7c8) (by decide +kernel) rfl rfl rfl (by decide +kernel)
set_option maxRecDepth 65536 in
theorem w_c14 : (Jvm.Cond.code ({ cls := "java/lang/StringLatin1", name := "charAt", desc := "([BI)C" } : Jvm.MethodName) jdk_43_method_2_code (2 : Nat) (Option.some Jvm.ClassFile.FieldType.char)).before args0 about1 = true := code_word (m := ⟨11, 1⟩) (meth := k11m1) (c := k11c1) (by decide +kernel) rfl rfl rfl (by decide +kernel)
set_option maxRecDepth 65536 in
theorem w_c15 : (Jvm.Cond.code ({ cls := "java/lang/String", name := "checkIndex", desc := "(II)V" } : Jvm.MethodName) jdk_42_method_155_code (2 : Nat) (Option.none : Option Jvm.ClassFile.FieldType)).before args0 about1 = true := code_word (m := ⟨7, 9⟩) (meth := k7m9) (c := k7c9) (by decide +kernel) rfl rfl rfl (by decide +kernel)
set_option maxRecDepth 65536 in
theorem w_c16 : (Jvm.Cond.code ({ cls := "jdk/internal/util/Preconditions", name := "checkIndex", desc := "(IILjava/util/function/BiFunction;)I" } : Jvm.MethodName) jdk_41_method_11_code (3 : Nat) (Option.some Jvm.ClassFile.FieldType.int)).before args0 about1 = true := code_word (m := ⟨12, 1⟩) (meth := k12m1) (c := k12c1) (by decide +kernel) rfl rfl rfl (by decide +kernel)
set_option maxRecDepth 65536 in
theorem w_c17 : (Jvm.Cond.code ({ cls := "java/lang/String", name := "valueOf", desc := "(C)Ljava/lang/String;" } : Jvm.MethodName) jdk_42_method_139_code (1 : Nat) (Option.some (Jvm.ClassFile.FieldType.object "java/lang/String"))).before args0 about1 = true := code_word (m := ⟨7, 4⟩) (meth := k7m4) (c := k7c4) (by decide +kernel) rfl rfl rfl (by decide +kernel)
set_option maxRecDepth 65536 in
theorem w_c18 : (Jvm.Cond.code ({ cls := "java/lang/StringLatin1", name := "canEncode", desc := "(C)Z" } : Jvm.MethodName) jdk_43_method_3_code (1 : Nat) (Option.some Jvm.ClassFile.FieldType.boolean)).before args0 about1 = true := code_word (m := ⟨11, 2⟩) (meth := k11m2) (c := k11c2) (by decide +kernel) rfl rfl rfl (by decide +kernel)
set_option maxRecDepth 65536 in
theorem w_c19 : (Jvm.Cond.code ({ cls := "java/lang/StringLatin1", name := "toBytes", desc := "(C)[B" } : Jvm.MethodName) jdk_43_method_46_code (1 : Nat) (Option.some (Jvm.ClassFile.FieldType.array Jvm.ClassFile.FieldType.byte))).before args0 about1 = true := code_word (m := ⟨11, 3⟩) (meth := k11m3) (c := k11c3) (by decide +kernel) rfl rfl rfl (by decide +kernel)
set_option maxRecDepth 65536 in
theorem w_c20 : (Jvm.Cond.code ({ cls := "java/lang/String", name := "<init>", desc := "([BB)V" } : Jvm.MethodName) jdk_42_method_151_code (3 : Nat) (Option.none : Option Jvm.ClassFile.FieldType)).before args0 about1 = true := code_word (m := ⟨7, 6⟩) (meth := k7m6) (c := k7c6) (by decide +kernel) rfl rfl rfl (by decide +kernel)
def codes1 : List Jvm.Cond := [Jvm.Cond.code x code maxLocals ret, Jvm.Cond.code ({ cls := "com/example/ddos_fee_ledger/ddosfeeledger/MoneyIsCurrencyPinLaw", name := "make", desc := "(ICCCCC)Ljava/lang/String;" } : Jvm.MethodName) method_3_code (6 : Nat) (Option.some (Jvm.ClassFile.FieldType.object "java/lang/String")), Jvm.Cond.code ({ cls := "java/lang/String", name := "<init>", desc := "([C)V" } : Jvm.MethodName) jdk_42_method_3_code (2 : Nat) (Option.none : Option Jvm.ClassFile.FieldType), Jvm.Cond.code ({ cls := "java/lang/String", name := "<init>", desc := "([CIILjava/lang/Void;)V" } : Jvm.MethodName) jdk_42_method_149_code (6 : Nat) (Option.none : Option Jvm.ClassFile.FieldType), Jvm.Cond.code ({ cls := "java/lang/Object", name := "<init>", desc := "()V" } : Jvm.MethodName) object_method_1_code (1 : Nat) (Option.none : Option Jvm.ClassFile.FieldType), Jvm.Cond.code ({ cls := "java/lang/StringUTF16", name := "compress", desc := "([CII)[B" } : Jvm.MethodName) jdk_52_method_16_code (6 : Nat) (Option.some (Jvm.ClassFile.FieldType.array Jvm.ClassFile.FieldType.byte)), Jvm.Cond.code ({ cls := "java/lang/StringUTF16", name := "compress", desc := "([CI[BII)I" } : Jvm.MethodName) jdk_52_method_21_code (7 : Nat) (Option.some Jvm.ClassFile.FieldType.int), Jvm.Cond.code ({ cls := "java/lang/StringUTF16", name := "coderFromArrayLen", desc := "([BI)B" } : Jvm.MethodName) jdk_52_method_15_code (2 : Nat) (Option.some Jvm.ClassFile.FieldType.byte), Jvm.Cond.code ({ cls := "com/example/ddos_fee_ledger/ddosfeeledger/MoneyIsCurrencyPinLaw", name := "upper", desc := "(C)Z" } : Jvm.MethodName) method_2_code (1 : Nat) (Option.some Jvm.ClassFile.FieldType.boolean), Jvm.Cond.code ({ cls := "com/example/ddos_fee_ledger/ddosfeeledger/Money", name := "isCurrency", desc := "(Ljava/lang/String;)Z" } : Jvm.MethodName) prog_43_method_4_code (3 : Nat) (Option.some Jvm.ClassFile.FieldType.boolean), Jvm.Cond.code ({ cls := "java/lang/String", name := "length", desc := "()I" } : Jvm.MethodName) jdk_42_method_54_code (1 : Nat) (Option.some Jvm.ClassFile.FieldType.int), Jvm.Cond.code ({ cls := "java/lang/String", name := "coder", desc := "()B" } : Jvm.MethodName) jdk_42_method_152_code (1 : Nat) (Option.some Jvm.ClassFile.FieldType.byte), Jvm.Cond.code ({ cls := "java/lang/String", name := "charAt", desc := "(I)C" } : Jvm.MethodName) jdk_42_method_56_code (2 : Nat) (Option.some Jvm.ClassFile.FieldType.char), Jvm.Cond.code ({ cls := "java/lang/String", name := "isLatin1", desc := "()Z" } : Jvm.MethodName) jdk_42_method_154_code (1 : Nat) (Option.some Jvm.ClassFile.FieldType.boolean), Jvm.Cond.code ({ cls := "java/lang/StringLatin1", name := "charAt", desc := "([BI)C" } : Jvm.MethodName) jdk_43_method_2_code (2 : Nat) (Option.some Jvm.ClassFile.FieldType.char), Jvm.Cond.code ({ cls := "java/lang/String", name := "checkIndex", desc := "(II)V" } : Jvm.MethodName) jdk_42_method_155_code (2 : Nat) (Option.none : Option Jvm.ClassFile.FieldType), Jvm.Cond.code ({ cls := "jdk/internal/util/Preconditions", name := "checkIndex", desc := "(IILjava/util/function/BiFunction;)I" } : Jvm.MethodName) jdk_41_method_11_code (3 : Nat) (Option.some Jvm.ClassFile.FieldType.int), Jvm.Cond.code ({ cls := "java/lang/String", name := "valueOf", desc := "(C)Ljava/lang/String;" } : Jvm.MethodName) jdk_42_method_139_code (1 : Nat) (Option.some (Jvm.ClassFile.FieldType.object "java/lang/String")), Jvm.Cond.code ({ cls := "java/lang/StringLatin1", name := "canEncode", desc := "(C)Z" } : Jvm.MethodName) jdk_43_method_3_code (1 : Nat) (Option.some Jvm.ClassFile.FieldType.boolean), Jvm.Cond.code ({ cls := "java/lang/StringLatin1", name := "toBytes", desc := "(C)[B" } : Jvm.MethodName) jdk_43_method_46_code (1 : Nat) (Option.some (Jvm.ClassFile.FieldType.array Jvm.ClassFile.FieldType.byte)), Jvm.Cond.code ({ cls := "java/lang/String", name := "<init>", desc := "([BB)V" } : Jvm.MethodName) jdk_42_method_151_code (3 : Nat) (Option.none : Option Jvm.ClassFile.FieldType)]
set_option maxRecDepth 65536 in
theorem codes_eq : words1.filter isCode = codes1 := rfl
theorem w_codes : ∀ c ∈ words1.filter isCode, c.before args0 about1 = true := by
  rw [codes_eq]
  intro c hc
  simp only [codes1, List.mem_cons, List.not_mem_nil, or_false] at hc
  rcases hc with rfl | rfl | rfl | rfl | rfl | rfl | rfl | rfl | rfl | rfl | rfl | rfl | rfl | rfl | rfl | rfl | rfl | rfl | rfl | rfl | rfl
  · exact w_c0
  · exact w_c1
  · exact w_c2
  · exact w_c3
  · exact w_c4
  · exact w_c5
  · exact w_c6
  · exact w_c7
  · exact w_c8
  · exact w_c9
  · exact w_c10
  · exact w_c11
  · exact w_c12
  · exact w_c13
  · exact w_c14
  · exact w_c15
  · exact w_c16
  · exact w_c17
  · exact w_c18
  · exact w_c19
  · exact w_c20
set_option maxRecDepth 65536 in
theorem w_t1 : (words1.take 24).all (fun c => isCode c || c.before args0 about1) = true := by decide +kernel
set_option maxRecDepth 65536 in
theorem w_t2 : ((words1.drop 24).take 24).all (fun c => isCode c || c.before args0 about1) = true := by decide +kernel
set_option maxRecDepth 65536 in
theorem w_t3 : (((words1.drop 24).drop 24).take 24).all (fun c => isCode c || c.before args0 about1) = true := by decide +kernel
set_option maxRecDepth 65536 in
theorem w_t4 : (((words1.drop 24).drop 24).drop 24).all (fun c => isCode c || c.before args0 about1) = true := by decide +kernel
theorem w_tables : (allAtoms (Jvm.Cond.code x code maxLocals ret :: tables_1)).before args0 about1 = true := by
  rw [allAtoms_all]
  show words1.all (fun c => c.before args0 about1) = true
  refine all_split ?_ w_codes
  rw [← List.take_append_drop 24 words1, List.all_append, w_t1, ← List.take_append_drop 24 (words1.drop 24), List.all_append, w_t2, ← List.take_append_drop 24 ((words1.drop 24).drop 24), List.all_append, w_t3, w_t4]
  rfl
set_option maxRecDepth 65536 in
theorem w_rest : rest_1_c.before args0 about1 = true := by decide +kernel
set_option maxRecDepth 65536 in
theorem w_case : (Jvm.Cond.and given_1 narrow_1).before args0 about1 = true := by decide +kernel
set_option maxRecDepth 65536 in
theorem w_consts : constsHeld consts_1 about1 := Jvm.Lit.constsHeldB_iff.mp (by decide +kernel)
theorem w_applies : (headSpec (Jvm.Cond.code x code maxLocals ret :: tables_1) room_1).applies x e0.platform about1 = true :=
  (Spec.applies_iff w_frames).mpr ⟨w_running, w_runnable, w_alone, w_named, w_hears, w_ripe, w_room, w_tables⟩
theorem atStart : AtStart classFile x code maxLocals ret World_1 tables_1 room_1 Calls_1 rest_1 Pre_1 launch0 p0 e0 about1 theMethod args0 below0 :=
  ⟨lists_1, trivial, launch0.admits_env _ _ _, launch0.least_env, fairChoices_fair.cas, fairChoices_fair.clock, w_frames, w_args, w_heap, w_applies, ⟨w_consts, trivial⟩, w_rest, w_case⟩
end start1
theorem witness_1 : WitnessClaimed_1 := ⟨start1.p0, start1.e0, start1.about1, start1.theMethod, start1.args0, start1.below0, start1.atStart⟩
end Jvm.Pilot.@@N@@
